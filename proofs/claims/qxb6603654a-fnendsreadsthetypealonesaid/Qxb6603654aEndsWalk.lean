import Derived.Test.Qxb6603654aProg
import Derived.WalkKit
namespace Go.Proofs.Qxb6603654a
open Go.RowKit
set_option linter.unusedVariables false
set_option linter.unusedSimpArgs false

def termB (l : List UInt8) : Bool := l == [99, 111, 109, 112, 108, 101, 116, 101, 100] || (l == [105, 110, 99, 111, 109, 112, 108, 101, 116, 101] || l == [102, 97, 105, 108, 101, 100])
def endsB (l : List UInt8) : Bool := l == [114, 101, 115, 112, 111, 110, 115, 101, 46, 99, 111, 109, 112, 108, 101, 116, 101, 100] || (l == [114, 101, 115, 112, 111, 110, 115, 101, 46, 105, 110, 99, 111, 109, 112, 108, 101, 116, 101] || l == [114, 101, 115, 112, 111, 110, 115, 101, 46, 102, 97, 105, 108, 101, 100])

set_option maxHeartbeats 400000 in
theorem ends25 (b : Nat) (t : ByteArray) (w : World) (hc : w.cell? ⟨b, 0, none⟩ = some (.string t)) :
    Calls Try.prog 25 #[.pointer (some ⟨b, 0, none⟩)] w fun e w' => e = .returned (.bool (endsB t.toList)) ∧ w' = w := by
  cases h1 : (t.toList == [114, 101, 115, 112, 111, 110, 115, 101, 46, 99, 111, 109, 112, 108, 101, 116, 101, 100]) with
  | true =>
    have he : endsB t.toList = true := by simp only [endsB, h1, Bool.true_or]
    rw [he]
    clear he
    go_enter Try.func25, Try.ntmps25
    go_wp2
    go_ret
    exact ⟨rfl, rfl⟩
  | false =>
    cases h2 : (t.toList == [114, 101, 115, 112, 111, 110, 115, 101, 46, 105, 110, 99, 111, 109, 112, 108, 101, 116, 101]) with
    | true =>
      have he : endsB t.toList = true := by simp only [endsB, h1, h2, Bool.true_or, Bool.false_or]
      rw [he]
      clear he
      go_enter Try.func25, Try.ntmps25
      go_wp2
      go_ret
      exact ⟨rfl, rfl⟩
    | false =>
      have he : endsB t.toList = (t.toList == [114, 101, 115, 112, 111, 110, 115, 101, 46, 102, 97, 105, 108, 101, 100]) := by simp only [endsB, h1, h2, Bool.false_or]
      rw [he]
      clear he
      cases h3 : (t.toList == [114, 101, 115, 112, 111, 110, 115, 101, 46, 102, 97, 105, 108, 101, 100]) with
      | true =>
        go_enter Try.func25, Try.ntmps25
        go_wp2
        go_ret
        exact ⟨rfl, rfl⟩
      | false =>
        go_enter Try.func25, Try.ntmps25
        go_wp2
        go_ret
        exact ⟨rfl, rfl⟩

set_option maxHeartbeats 400000 in
theorem ends21 (t m s : ByteArray) (w : World) :
    Calls Try.prog 21 #[.string t, .string m, .string s] w fun e w' => e = .returned (.bool (endsB t.toList)) ∧ Below w.heap.size w w' := by
  go_enter Try.func21, Try.ntmps21
  go_wp2_with fail
  refine (ends25 _ t _ (by unfold World.cell?; rw [(MapKept.heap_alloc w _).1]; rfl)).mono ?_
  rintro e w' ⟨rfl, rfl⟩
  go_wp2_with fail
  go_ret
  exact ⟨rfl, (Below.refl _ _).alloc (Nat.le_refl _) _⟩

set_option maxHeartbeats 400000 in
theorem term26 (t : ByteArray) (w : World) :
    Calls Try.prog 26 #[.string t] w fun e w' => e = .returned (.bool (termB t.toList)) ∧ w' = w := by
  cases h1 : (t.toList == [99, 111, 109, 112, 108, 101, 116, 101, 100]) with
  | true =>
    have he : termB t.toList = true := by simp only [termB, h1, Bool.true_or]
    rw [he]
    clear he
    go_enter Try.func26, Try.ntmps26
    go_wp2
    go_ret
    exact ⟨rfl, rfl⟩
  | false =>
    cases h2 : (t.toList == [105, 110, 99, 111, 109, 112, 108, 101, 116, 101]) with
    | true =>
      have he : termB t.toList = true := by simp only [termB, h1, h2, Bool.true_or, Bool.false_or]
      rw [he]
      clear he
      go_enter Try.func26, Try.ntmps26
      go_wp2
      go_ret
      exact ⟨rfl, rfl⟩
    | false =>
      have he : termB t.toList = (t.toList == [102, 97, 105, 108, 101, 100]) := by simp only [termB, h1, h2, Bool.false_or]
      rw [he]
      clear he
      cases h3 : (t.toList == [102, 97, 105, 108, 101, 100]) with
      | true =>
        go_enter Try.func26, Try.ntmps26
        go_wp2
        go_ret
        exact ⟨rfl, rfl⟩
      | false =>
        go_enter Try.func26, Try.ntmps26
        go_wp2
        go_ret
        exact ⟨rfl, rfl⟩

theorem take_list (t : ByteArray) (n : Nat) : (t.extract 0 n).toList = t.toList.take n := by
  rw [ByteArray.toList_eq, ByteArray.toList_eq]
  simp [ByteArray.data_extract]
theorem drop_list (t : ByteArray) (n : Nat) : (t.extract n t.size).toList = t.toList.drop n := by
  rw [ByteArray.toList_eq, ByteArray.toList_eq]
  rw [ByteArray.data_extract, Array.toList_extract, List.extract_eq_take_drop]
  rw [List.take_of_length_le]
  simp [ByteArray.size_data]
theorem append_list (t x : ByteArray) : (t ++ x).toList = t.toList ++ x.toList := by
  rw [ByteArray.toList_eq, ByteArray.toList_eq, ByteArray.toList_eq]
  simp
theorem size_list (t : ByteArray) : t.size = t.toList.length := by
  rw [ByteArray.toList_eq, Array.length_toList, ByteArray.size_data]

/-- the model's reading, on lists -/
theorem ends_split (l : List UInt8) (h : l.take 9 = [114, 101, 115, 112, 111, 110, 115, 101, 46]) : endsB l = termB (l.drop 9) := by
  have e : l = [114, 101, 115, 112, 111, 110, 115, 101, 46] ++ l.drop 9 := by rw [← h, List.take_append_drop]
  rw [e]
  simp [endsB, termB]
theorem ends_not (l : List UInt8) (h : ¬ l.take 9 = [114, 101, 115, 112, 111, 110, 115, 101, 46]) : endsB l = false := by
  cases he : endsB l with
  | false => rfl
  | true =>
    simp [endsB] at he
    rcases he with rfl | rfl | rfl <;> simp at h

set_option maxHeartbeats 400000 in
theorem model22 (t : ByteArray) (w : World) (ht : t.size ≤ 1048576) :
    Calls Try.prog 22 #[.string t] w fun e w' => e = .returned (.bool (endsB t.toList)) ∧ w' = w := by
  by_cases h9 : 9 < t.size
  · cases hr : ((t.extract 0 9).toList == [114, 101, 115, 112, 111, 110, 115, 101, 46]) with
    | true =>
      have e : endsB t.toList = termB (t.extract 9 t.size).toList := by
        rw [drop_list]
        exact ends_split _ (by rw [← take_list]; simpa using hr)
      rw [e]
      clear e
      go_enter Try.func22, Try.ntmps22
      go_wp2_with fail
      refine (term26 _ _).mono ?_
      rintro e w' ⟨rfl, rfl⟩
      go_wp2_with fail
      go_ret
      exact ⟨rfl, rfl⟩
    | false =>
      have e : endsB t.toList = false := ends_not _ (by rw [← take_list]; simpa using hr)
      rw [e]
      clear e
      go_enter Try.func22, Try.ntmps22
      go_wp2_with fail
      go_ret
      exact ⟨rfl, rfl⟩
  · have e : endsB t.toList = false := by
      cases he : endsB t.toList with
      | false => rfl
      | true =>
        rw [size_list] at h9
        simp [endsB] at he
        rcases he with h | h | h <;> rw [h] at h9 <;> simp at h9
    rw [e]
    clear e
    go_enter Try.func22, Try.ntmps22
    go_wp2_with fail
    go_ret
    exact ⟨rfl, rfl⟩

def SomeBool (e : Ending) : Prop := ∃ t, e = .returned (.bool t)
set_option maxHeartbeats 400000 in
theorem bytes20 (t m s x : ByteArray) (w : World) (h1 : t.size ≤ maxLen) (h2 : m.size ≤ maxLen) (h3 : s.size ≤ maxLen) (h4 : x.size ≤ maxLen) :
    Calls Try.prog 20 #[.string t, .string m, .string s, .string x] w fun e w' => SomeBool e ∧ w' = w := by
  unfold maxLen at *
  go_enter Try.func20, Try.ntmps20
  go_wp2
  all_goals
    go_ret
    exact ⟨⟨_, rfl⟩, rfl⟩

/-- no type that ends a response stays one when more is written behind it -/
theorem ends_apart (t x : List UInt8) (h1 : endsB t = true) (h2 : endsB (t ++ x) = true) : x = [] := by
  simp [endsB] at h1 h2
  rcases h1 with rfl | rfl | rfl <;> rcases h2 with h | h | h <;> first | (simp at h; done) | simpa using h

set_option maxHeartbeats 1000000 in
theorem walk4 (t m s x : ByteArray) (w : World) (h1 : t.size ≤ maxLen) (h2 : m.size ≤ maxLen) (h3 : s.size ≤ maxLen) (h4 : x.size ≤ maxLen) :
    Calls Try.prog 4 #[.string t, .string m, .string s, .string x] w fun e w' => e = .returned (.bool true) ∧ Below w.heap.size w w' := by
  have g1 := h1
  have g2 := h2
  have g3 := h3
  have g4 := h4
  unfold maxLen at g1 g2 g3 g4
  go_enter Try.func4, Try.ntmps4
  go_wp2_with fail
  refine (bytes20 t m s x _ h1 h2 h3 h4).mono ?_
  rintro e w1 ⟨⟨b, rfl⟩, hE⟩
  subst w1
  cases b
  · go_wp2_with fail
    go_ret
    exact ⟨rfl, Below.refl _ _⟩
  by_cases hg : t.size ≤ 65536 ∧ m.size ≤ 65536 ∧ s.size ≤ 65536 ∧ x.size ≤ 65536
  · obtain ⟨k1, k2, k3, k4⟩ := hg
    go_wp2_with fail
    refine (ends21 t m s _).mono ?_
    rintro e w2 ⟨rfl, hb2⟩
    go_wp2_with fail
    refine (model22 t _ (by omega)).mono ?_
    rintro e w3 ⟨rfl, hE⟩
    subst w3
    go_wp2_with fail
    refine (ends21 t _ _ _).mono ?_
    rintro e w3 ⟨rfl, hb3⟩
    go_wp2_with fail
    refine (ends21 (t ++ x) _ _ _).mono ?_
    rintro e w4 ⟨rfl, hb4⟩
    have hB : Below w.heap.size w w4 := (hb2.trans (hb3.mono hb2.size)).trans (hb4.mono (Nat.le_trans hb2.size hb3.size))
    go_wp2_with fail
    refine (model22 (t ++ x) _ (by rw [ByteArray.size_append]; omega)).mono ?_
    rintro e w5 ⟨rfl, hE⟩
    subst w5
    have hap : endsB t.toList = true → endsB (t ++ x).toList = true → x.toList = [] := fun a b => ends_apart t.toList x.toList a (by rw [← append_list]; exact b)
    cases ha : endsB t.toList with
    | false =>
      rw [ha] at hap
      clear hap
      go_wp2_with fail
      go_ret
      exact ⟨rfl, hB⟩
    | true =>
      cases hb : endsB (t ++ x).toList with
      | false =>
        clear hap
        go_wp2_with fail
        go_ret
        exact ⟨rfl, hB⟩
      | true =>
        have hx := hap ha hb
        clear hap ha hb
        go_wp2_with fail
        go_ret
        exact ⟨by simp [hx], hB⟩
  · go_wp2_with fail
    all_goals
      go_ret
      exact ⟨rfl, Below.refl _ _⟩
end Go.Proofs.Qxb6603654a
