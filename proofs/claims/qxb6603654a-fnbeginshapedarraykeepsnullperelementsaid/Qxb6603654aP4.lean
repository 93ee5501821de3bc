import Derived.Test.Qxb6603654aP3
namespace Go.Proofs.Qxb6603654a
open Go.RowKit Go.WideShapes
set_option linter.unusedVariables false
set_option linter.unusedSimpArgs false

theorem results_tmp5 {fn : Func} {t u v x y : Tmp} (h : fn.results = #[.tmp t, .tmp u, .tmp v, .tmp x, .tmp y]) (tmps : Array Value) (P : Program) (w : World) :
    (results fn tmps).run P w = .ok (.tuple #[tmps.getD t undef, tmps.getD u undef, tmps.getD v undef, tmps.getD x undef, tmps.getD y undef]) w := by
  simp [results, h]
/-- 'string(b)' of an owned row of bytes -/
theorem conv9 {w : World} {B : Nat} {v : Value} {out : List Int} (h : w.ownsRow B 5 1 v out.length (out.map (Value.int .u8))) : (convert 22 9 v).run Try.prog w = .ok (.string (strOfNums out)) w := by
  rcases h.2 with ⟨rfl, h0⟩ | ⟨g, cap, cur, rfl, _⟩
  · have : out = [] := List.length_eq_zero_iff.1 h0
    subst this
    exact run_convert_bytes_nil w 22 5 Try.underlying22 Try.underlying5 0 0 9 Try.underlying9
  · exact run_convert_bytes_arg w 22 5 Try.underlying22 Try.underlying5 g 0 out.length cap out rfl (fun i hi => by
      rw [Nat.zero_add, h.cellAt i (by omega), List.getElem?_map]
      simp [hi]) 9 Try.underlying9
theorem new23 (a : Option Addr) (n c : Nat) (w : World) : Calls Try.prog 23 #[.slice a n c] w fun e w' => e = .returned (.pointer (some ⟨w.heap.size, 0, none⟩)) ∧ w' = w.alloc (.cells #[.slice none 0 0, .slice none 0 0, .int .i64 0, .bool false, .int .i64 0, .string ⟨#[]⟩, .bool false, .slice none 0 0, .int .i64 0, .slice a n c] 48) := by
  go_enter Try.func23, Try.ntmps23
  go_wp2
  go_ret
  exact ⟨rfl, rfl⟩
/-- a new excerpt of the shape with the one member 'name' -/
theorem new6 (name : ByteArray) (w : World) : Calls Try.prog 6 #[.string name] w fun e w' => ∃ p rg, e = .returned (.pointer (some ⟨p, 0, none⟩)) ∧ ExAt w' w.heap.size p rg name (.slice none 0 0) (.slice none 0 0) [] 0 false ⟨#[]⟩ ∧ Below w.heap.size w w' := by
  go_enter Try.func6, Try.ntmps6
  go_wp2_with fail
  refine (new23 _ _ _ _).mono ?_
  rintro e w1 ⟨rfl, hE⟩
  subst w1
  go_wp2_with fail
  go_ret
  have hnew := (MapKept.heap_alloc (w.alloc (.cells #[.string name, .slice none 0 0] 42)) (.cells #[.slice none 0 0, .slice none 0 0, .int .i64 0, .bool false, .int .i64 0, .string ⟨#[]⟩, .bool false, .slice none 0 0, .int .i64 0, .slice (some ⟨w.heap.size, 0, none⟩) 1 1] 48)).1
  have hold := (MapKept.heap_alloc w (.cells #[.string name, .slice none 0 0] 42)).1
  have hblk : RowB ((w.alloc (.cells #[.string name, .slice none 0 0] 42)).alloc (.cells #[.slice none 0 0, .slice none 0 0, .int .i64 0, .bool false, .int .i64 0, .string ⟨#[]⟩, .bool false, .slice none 0 0, .int .i64 0, .slice (some ⟨w.heap.size, 0, none⟩) 1 1] 48)) (w.alloc (.cells #[.string name, .slice none 0 0] 42)).heap.size 48 10 (ecells (.slice none 0 0) (.slice none 0 0) 0 (false || decide (65536 < ([] : List Int).length)) ⟨#[]⟩ w.heap.size) :=
    ⟨_, hnew, rfl, by exact ten rfl rfl rfl rfl rfl rfl rfl rfl rfl rfl⟩
  have hroot : RowB (w.alloc (.cells #[.string name, .slice none 0 0] 42)) w.heap.size 42 2 (rcells name) := by
    refine ⟨_, hold, rfl, fun i hi => ?_⟩
    match i, hi with
    | 0, _ => rfl
    | 1, _ => rfl
  have sz : (w.alloc (.cells #[.string name, .slice none 0 0] 42)).heap.size = w.heap.size + 1 := by simp
  rw [sz] at hblk
  exact ⟨_, w.heap.size, rfl, ⟨hblk, World.ownsRow_nil _ _ _ _, hroot.alloc _, by omega, Nat.le_refl _⟩, ((Below.refl _ _).alloc (Nat.le_refl _) _).alloc (by simp) _⟩
theorem begin7 {P : World → Prop} {p : Nat} {c : Int} {w : World} (h : Calls Try.prog 24 #[.pointer (some ⟨p, 0, none⟩), .int .u8 c] w fun e w' => e = .returned (.tuple #[]) ∧ P w') :
    Calls Try.prog 7 #[.pointer (some ⟨p, 0, none⟩), .int .u8 c] w fun e w' => e = .returned (.tuple #[]) ∧ P w' := by
  go_enter Try.func7, Try.ntmps7
  go_wp2_with fail
  refine h.mono ?_
  rintro e w1 ⟨rfl, hP⟩
  go_wp2_with fail
  go_end0
  exact ⟨rfl, hP⟩
def SomeB (e : Ending) : Prop := ∃ t, e = .returned (.bool t)
theorem bytes5 (t : ByteArray) (a : Option Addr) (n c : Nat) (w : World) (h1 : t.size ≤ maxLen) (h2 : n ≤ maxLen) :
    Calls Try.prog 5 #[.string t, .slice a n c] w fun e w' => SomeB e ∧ w' = w := by
  unfold maxLen at *
  go_enter Try.func5, Try.ntmps5
  go_wp2
  all_goals
    go_ret
    exact ⟨⟨_, rfl⟩, rfl⟩
def kN (c : Int) : Int := if c = 34 then 3 else if c = 45 then 4 else if 48 ≤ c ∧ c ≤ 57 then 4 else if c = 116 ∨ c = 102 ∨ c = 110 then 5 else 0

section
variable {w : World} {B p rg fg fcap : Nat} {name : ByteArray} {ov sv : Value} {out : List Int} {st : Int} {bad kept : Bool} {lit : ByteArray}
theorem depth11 (h : ExAt w B p rg name ov (.slice (some ⟨fg, 0, none⟩) 1 fcap) out st bad lit) : Calls Try.prog 11 #[.pointer (some ⟨p, 0, none⟩)] w fun e w' => e = .returned (.int .i64 1) ∧ w' = w := by
  have c' : w.cell? ⟨p, 1, none⟩ = some (.slice (some ⟨fg, 0, none⟩) 1 fcap) := h.blk.cell (i := 1) (by omega)
  go_enter Try.func11, Try.ntmps11
  go_wp2
  go_ret
  exact ⟨rfl, rfl⟩
theorem name13 (h : ExAt w B p rg name ov (.slice (some ⟨fg, 0, none⟩) 1 fcap) out st bad lit) (hf : FrAt w B fg fcap rg kept) : Calls Try.prog 13 #[.pointer (some ⟨p, 0, none⟩), .int .i64 0] w fun e w' => e = .returned (.string name) ∧ w' = w := by
  have c' : w.cell? ⟨p, 1, none⟩ = some (.slice (some ⟨fg, 0, none⟩) 1 fcap) := h.blk.cell (i := 1) (by omega)
  have e2 : w.cell? ⟨fg, 2, none⟩ = some (.slice (some ⟨rg, 0, none⟩) 1 1) := hf.cell 2 (by omega)
  have r0 : w.cell? ⟨rg, 0, none⟩ = some (.string name) := h.root.cell (i := 0) (by omega)
  go_enter Try.func13, Try.ntmps13
  go_wp2
  go_ret
  exact ⟨rfl, rfl⟩
theorem out14 (h : ExAt w B p rg name ov sv out st bad lit) : Calls Try.prog 14 #[.pointer (some ⟨p, 0, none⟩)] w fun e w' => e = .returned (.string (strOfNums out)) ∧ w' = w := by
  obtain ⟨oa, oc, rfl⟩ := ownsRow_form h.row
  have c' : w.cell? ⟨p, 0, none⟩ = some (.slice oa out.length oc) := h.blk.cell (i := 0) (by omega)
  have hcv : (convert 22 9 (.slice oa out.length oc)).run Try.prog w = .ok (.string (strOfNums out)) w := conv9 h.row
  go_enter Try.func14, Try.ntmps14
  go_wp2
  go_ret
  exact ⟨rfl, rfl⟩
theorem failed15 (h : ExAt w B p rg name ov sv out st bad lit) : Calls Try.prog 15 #[.pointer (some ⟨p, 0, none⟩)] w fun e w' => e = .returned (.bool (bad || decide (65536 < out.length))) ∧ w' = w := by
  have c' : w.cell? ⟨p, 3, none⟩ = some (.bool (bad || decide (65536 < out.length))) := h.blk.cell (i := 3) (by omega)
  generalize (bad || decide (65536 < out.length)) = t at *
  go_enter Try.func15, Try.ntmps15
  go_wp2
  go_ret
  exact ⟨rfl, rfl⟩
theorem state16 (h : ExAt w B p rg name ov sv out st bad lit) : Calls Try.prog 16 #[.pointer (some ⟨p, 0, none⟩)] w fun e w' => e = .returned (.int .i64 st) ∧ w' = w := by
  have c' : w.cell? ⟨p, 2, none⟩ = some (.int .i64 st) := h.blk.cell (i := 2) (by omega)
  go_enter Try.func16, Try.ntmps16
  go_wp2
  go_ret
  exact ⟨rfl, rfl⟩
theorem scalar17 (h : ExAt w B p rg name ov sv out st bad lit) : Calls Try.prog 17 #[.pointer (some ⟨p, 0, none⟩)] w fun e w' => e = .returned (.int .i64 0) ∧ w' = w := by
  have c' : w.cell? ⟨p, 4, none⟩ = some (.int .i64 0) := h.blk.cell (i := 4) (by omega)
  go_enter Try.func17, Try.ntmps17
  go_wp2
  go_ret
  exact ⟨rfl, rfl⟩
theorem lit18 (h : ExAt w B p rg name ov sv out st bad lit) : Calls Try.prog 18 #[.pointer (some ⟨p, 0, none⟩)] w fun e w' => e = .returned (.string lit) ∧ w' = w := by
  have c' : w.cell? ⟨p, 5, none⟩ = some (.string lit) := h.blk.cell (i := 5) (by omega)
  go_enter Try.func18, Try.ntmps18
  go_wp2
  go_ret
  exact ⟨rfl, rfl⟩
theorem inkey19 (h : ExAt w B p rg name ov sv out st bad lit) : Calls Try.prog 19 #[.pointer (some ⟨p, 0, none⟩)] w fun e w' => e = .returned (.bool false) ∧ w' = w := by
  have c' : w.cell? ⟨p, 6, none⟩ = some (.bool false) := h.blk.cell (i := 6) (by omega)
  go_enter Try.func19, Try.ntmps19
  go_wp2
  go_ret
  exact ⟨rfl, rfl⟩
theorem frame12 (h : ExAt w B p rg name ov (.slice (some ⟨fg, 0, none⟩) 1 fcap) out st bad lit) (hf : FrAt w B fg fcap rg kept) : Calls Try.prog 12 #[.pointer (some ⟨p, 0, none⟩), .int .i64 0] w fun e w' => e = .returned (.tuple #[.bool false, .int .i64 2, .bool kept, .int .i64 0, .int .i64 1]) ∧ Below w.heap.size w w' := by
  have c' : w.cell? ⟨p, 1, none⟩ = some (.slice (some ⟨fg, 0, none⟩) 1 fcap) := h.blk.cell (i := 1) (by omega)
  have e0 : w.cell? ⟨fg, 0, none⟩ = some (.bool false) := hf.cell 0 (by omega)
  have e1 : w.cell? ⟨fg, 1, none⟩ = some (.int .i64 2) := hf.cell 1 (by omega)
  have e2 : w.cell? ⟨fg, 2, none⟩ = some (.slice (some ⟨rg, 0, none⟩) 1 1) := hf.cell 2 (by omega)
  have e3 : w.cell? ⟨fg, 3, none⟩ = some (.bool kept) := hf.cell 3 (by omega)
  have e4 : w.cell? ⟨fg, 4, none⟩ = some (.int .i64 0) := hf.cell 4 (by omega)
  have e5 : w.cell? ⟨fg, 5, none⟩ = some (.slice none 0 0) := hf.cell 5 (by omega)
  go_enter Try.func12, Try.ntmps12
  go_wp2
  go_quiet (fail)
  go_wp2
  refine bodyPost_ret (results_tmp5 rfl _ _ _) rfl ?_
  exact ⟨rfl, Below.drewN' ((Below.refl _ _).alloc (Nat.le_refl _) _) _⟩
end
theorem json8 (c : Int) (hc1 : ¬ c = 123) (hc2 : ¬ c = 91) (w : World) : Calls Try.prog 8 #[.int .u8 c] w fun e w' => e = .returned (.int .i64 (kN c)) ∧ w' = w := by
  have b1 : (c == (123 : Int)) = false := by simpa using hc1
  have b2 : (c == (91 : Int)) = false := by simpa using hc2
  by_cases k1 : c = 34
  · have e : kN c = 3 := by simp [kN, k1]
    rw [e]
    subst k1
    clear e b1 b2
    go_enter Try.func8, Try.ntmps8
    go_wp2
    go_ret
    exact ⟨rfl, rfl⟩
  have e34 : (c == (34 : Int)) = false := by simpa using k1
  by_cases k2 : c = 45
  · have e : kN c = 4 := by simp [kN, k2]
    rw [e]
    subst k2
    clear e b1 b2 e34
    go_enter Try.func8, Try.ntmps8
    go_wp2
    go_ret
    exact ⟨rfl, rfl⟩
  have e45 : (c == (45 : Int)) = false := by simpa using k2
  by_cases k4 : 48 ≤ c ∧ c ≤ 57
  · have e : kN c = 4 := by simp [kN, k1, k2, k4]
    rw [e]
    clear e
    obtain ⟨k4, k4'⟩ := k4
    go_enter Try.func8, Try.ntmps8
    go_wp2
    go_ret
    exact ⟨rfl, rfl⟩
  have hd1 : ∀ c : Int, ¬ (48 ≤ c ∧ c ≤ 57) → (decide ((48 : Int) ≤ c) && decide (c ≤ (57 : Int))) = false := fun c h => by by_cases h1 : 48 ≤ c <;> by_cases h2 : c ≤ 57 <;> simp_all
  have hd := hd1 c k4
  clear hd1
  by_cases k5 : c = 116 ∨ c = 102 ∨ c = 110
  · have e : kN c = 5 := by simp [kN, k1, k2, k4, k5]
    rw [e]
    clear e
    rcases k5 with rfl | rfl | rfl
    all_goals
      clear hd e45 e34 b1 b2 k4
      go_enter Try.func8, Try.ntmps8
      go_wp2
      go_ret
      exact ⟨rfl, rfl⟩
  · have e : kN c = 0 := by simp [kN, k1, k2, k4, k5]
    rw [e]
    clear e
    have e5 : (c == (116 : Int)) = false := by simp; omega
    have e6 : (c == (102 : Int)) = false := by simp; omega
    have e7 : (c == (110 : Int)) = false := by simp; omega
    have hk : c < 48 ∨ 57 < c := by omega
    rcases hk with hk | hk
    · go_enter Try.func8, Try.ntmps8
      go_wp2
      go_ret
      exact ⟨rfl, rfl⟩
    · have hk' : 48 ≤ c := by omega
      go_enter Try.func8, Try.ntmps8
      go_wp2
      go_ret
      exact ⟨rfl, rfl⟩
theorem num9 (st c : Int) (hk : kN c = 4) (w : World) : Calls Try.prog 9 #[.int .u8 c] w fun e w' => e = .returned (.int .i64 (stN st c)) ∧ w' = w := by
  by_cases k1 : c = 34
  · simp [kN, k1] at hk
  by_cases k2 : c = 45
  · have e : stN st c = 9 := by simp [stN, k2]
    rw [e]
    subst k2
    clear e
    go_enter Try.func9, Try.ntmps9
    go_wp2
    go_ret
    exact ⟨rfl, rfl⟩
  have e45 : (c == (45 : Int)) = false := by simpa using k2
  by_cases k3 : c = 48
  · have e : stN st c = 10 := by simp [stN, k3]
    rw [e]
    subst k3
    clear e e45
    go_enter Try.func9, Try.ntmps9
    go_wp2
    go_ret
    exact ⟨rfl, rfl⟩
  have e48 : (c == (48 : Int)) = false := by simpa using k3
  have k4 : 48 ≤ c ∧ c ≤ 57 := by
    by_cases h : 48 ≤ c ∧ c ≤ 57
    · exact h
    · simp only [kN, k1, k2, h, if_false] at hk
      split at hk <;> omega
  have e : stN st c = 11 := by simp [stN, k1, k2, k3, k4]
  rw [e]
  clear e hk
  go_enter Try.func9, Try.ntmps9
  go_wp2
  go_ret
  exact ⟨rfl, rfl⟩
def wordN (c : Int) : ByteArray := if c = 116 then ⟨#[116, 114, 117, 101]⟩ else if c = 102 then ⟨#[102, 97, 108, 115, 101]⟩ else ⟨#[110, 117, 108, 108]⟩
theorem word10 (c : Int) (w : World) : Calls Try.prog 10 #[.int .u8 c] w fun e w' => e = .returned (.string (wordN c)) ∧ w' = w := by
  by_cases k5 : c = 116
  · have e : wordN c = ⟨#[116, 114, 117, 101]⟩ := by simp [wordN, k5]
    rw [e]
    subst k5
    clear e
    go_enter Try.func10, Try.ntmps10
    go_wp2
    go_ret
    exact ⟨rfl, rfl⟩
  have e5 : (c == (116 : Int)) = false := by simpa using k5
  by_cases k6 : c = 102
  · have e : wordN c = ⟨#[102, 97, 108, 115, 101]⟩ := by simp [wordN, k6]
    rw [e]
    subst k6
    clear e e5
    go_enter Try.func10, Try.ntmps10
    go_wp2
    go_ret
    exact ⟨rfl, rfl⟩
  have e6 : (c == (102 : Int)) = false := by simpa using k6
  have e : wordN c = ⟨#[110, 117, 108, 108]⟩ := by simp [wordN, k5, k6]
  rw [e]
  clear e
  go_enter Try.func10, Try.ntmps10
  go_wp2
  go_ret
  exact ⟨rfl, rfl⟩
end Go.Proofs.Qxb6603654a
