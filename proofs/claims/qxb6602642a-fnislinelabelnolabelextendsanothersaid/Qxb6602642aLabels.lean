/-
  The labels as lists of bytes, the plain law, and the walks.
-/
import Derived.Test.Qxb6602642aProg
import Derived.WalkKit
import Derived.WalkSpells
import Derived.WalkLawsBesides
namespace Go.Proofs.Qxb6602642a
open Go.RowKit
set_option linter.unusedVariables false

/-! ### plain -/
def labels : List (List UInt8) :=
  [[103, 114, 97, 110, 116, 101, 100], [114, 101, 115, 101, 114, 118, 101], [116, 111, 116, 97, 108], [230, 142, 136, 228, 186, 136, 229, 144, 136, 232, 174, 161], [233, 162, 132, 231, 149, 153], [230, 128, 187, 232, 174, 161]]
def isLab (l : List UInt8) : Bool := labels.any fun b => l == b
theorem apart : ∀ a ∈ labels, ∀ b ∈ labels, b.take a.length = a → a = b := by decide
theorem isLab_mem {l : List UInt8} : isLab l = true ↔ l ∈ labels := by
  simp [isLab]
/-- no label goes on as another label -/
theorem no_longer {a t : List UInt8} (ha : isLab a = true) (ht : t ≠ []) : isLab (a ++ t) = false := by
  cases h : isLab (a ++ t)
  · rfl
  · rw [isLab_mem] at ha h
    have e := apart a ha (a ++ t) h (by simp)
    exact absurd (by simpa using e) ht

/-! ### walks -/
set_option maxHeartbeats 400000 in
theorem bytes_ok (s t : ByteArray) (w : World) (h : s.size + t.size ≤ 1048576) :
    Calls Try.prog 4 #[.string s, .string t] w fun e w' => e = .returned (.bool true) ∧ w' = w := by
  go_enter Try.func4, Try.ntmps4
  go_wp2
  go_ret
  exact ⟨rfl, rfl⟩
set_option maxHeartbeats 400000 in
theorem bytes_no (s t : ByteArray) (w : World) (h0 : s.size ≤ maxLen) (h1 : t.size ≤ maxLen) (h : 1048576 < s.size + t.size) :
    Calls Try.prog 4 #[.string s, .string t] w fun e w' => e = .returned (.bool false) ∧ w' = w := by
  unfold maxLen at h0 h1
  by_cases h2 : s.size ≤ 1048576
  · by_cases h3 : t.size ≤ 1048576
    · go_enter Try.func4, Try.ntmps4
      go_wp2
      go_ret
      exact ⟨rfl, rfl⟩
    · go_enter Try.func4, Try.ntmps4
      go_wp2
      go_ret
      exact ⟨rfl, rfl⟩
  · go_enter Try.func4, Try.ntmps4
    go_wp2
    go_ret
    exact ⟨rfl, rfl⟩

theorem isLab_eq (l : List UInt8) : isLab l = ((l == [103, 114, 97, 110, 116, 101, 100]) || ((l == [114, 101, 115, 101, 114, 118, 101]) || ((l == [116, 111, 116, 97, 108]) || ((l == [230, 142, 136, 228, 186, 136, 229, 144, 136, 232, 174, 161]) || ((l == [233, 162, 132, 231, 149, 153]) || ((l == [230, 128, 187, 232, 174, 161]))))))) := by
  simp only [isLab, labels, List.any_cons, List.any_nil, Bool.or_false]

set_option maxHeartbeats 400000 in
theorem label_any (s : ByteArray) (w : World) :
    Calls Try.prog 5 #[.string s] w fun e w' => e = .returned (.bool (isLab s.toList)) ∧ w' = w := by
  rw [isLab_eq]
  cases h1 : (s.toList == [103, 114, 97, 110, 116, 101, 100])
  · cases h2 : (s.toList == [114, 101, 115, 101, 114, 118, 101])
    · cases h3 : (s.toList == [116, 111, 116, 97, 108])
      · cases h4 : (s.toList == [230, 142, 136, 228, 186, 136, 229, 144, 136, 232, 174, 161])
        · cases h5 : (s.toList == [233, 162, 132, 231, 149, 153])
          · cases h6 : (s.toList == [230, 128, 187, 232, 174, 161])
            · go_enter Try.func5, Try.ntmps5
              go_wp2
              go_ret
              exact ⟨rfl, rfl⟩
            · go_enter Try.func5, Try.ntmps5
              go_wp2
              go_ret
              exact ⟨rfl, rfl⟩
          · go_enter Try.func5, Try.ntmps5
            go_wp2
            go_ret
            exact ⟨rfl, rfl⟩
        · go_enter Try.func5, Try.ntmps5
          go_wp2
          go_ret
          exact ⟨rfl, rfl⟩
      · go_enter Try.func5, Try.ntmps5
        go_wp2
        go_ret
        exact ⟨rfl, rfl⟩
    · go_enter Try.func5, Try.ntmps5
      go_wp2
      go_ret
      exact ⟨rfl, rfl⟩
  · go_enter Try.func5, Try.ntmps5
    go_wp2
    go_ret
    exact ⟨rfl, rfl⟩

set_option maxHeartbeats 400000 in
theorem label_is (s : ByteArray) (b : Bool) (h : isLab s.toList = b) (w : World) :
    Calls Try.prog 5 #[.string s] w fun e w' => e = .returned (.bool b) ∧ w' = w := by
  rw [← h]; exact label_any s w

theorem law_long (s t : ByteArray) (w : World) (h0 : s.size ≤ maxLen) (h1 : t.size ≤ maxLen) (h : 1048576 < s.size + t.size) :
    Calls Try.prog 3 #[.string s, .string t] w fun e w' => e = .returned (.bool true) ∧ Grown w w' := by
  go_enter Try.func3, Try.ntmps3
  go_wp2_with fail
  refine (bytes_no _ _ _ h0 h1 h).mono ?_
  rintro e w' ⟨rfl, rfl⟩
  go_wp2
  go_ret
  exact ⟨rfl, Grown.refl _⟩
theorem law_empty (s t : ByteArray) (w : World) (h : s.size + t.size ≤ 1048576) (ht : t.toList.isEmpty = true) :
    Calls Try.prog 3 #[.string s, .string t] w fun e w' => e = .returned (.bool true) ∧ Grown w w' := by
  go_enter Try.func3, Try.ntmps3
  go_wp2_with fail
  refine (bytes_ok _ _ _ h).mono ?_
  rintro e w' ⟨rfl, rfl⟩
  go_wp2
  go_ret
  exact ⟨rfl, Grown.refl _⟩
theorem law_none (s t : ByteArray) (w : World) (h : s.size + t.size ≤ 1048576) (ht : t.toList.isEmpty = false) (hs : isLab s.toList = false) :
    Calls Try.prog 3 #[.string s, .string t] w fun e w' => e = .returned (.bool true) ∧ Grown w w' := by
  have H : Hid (isLab s.toList = false) := hs
  clear hs
  go_enter Try.func3, Try.ntmps3
  go_wp2_with fail
  refine (bytes_ok _ _ _ h).mono ?_
  rintro e w' ⟨rfl, rfl⟩
  go_wp2_with fail
  refine (label_is s false H.out _).mono ?_
  rintro e w' ⟨rfl, rfl⟩
  go_wp2
  go_ret
  exact ⟨rfl, Grown.refl _⟩
theorem law_some (s t : ByteArray) (w : World) (h : s.size + t.size ≤ 1048576) (ht : t.toList.isEmpty = false) (hs : isLab s.toList = true) :
    Calls Try.prog 3 #[.string s, .string t] w fun e w' => e = .returned (.bool true) ∧ Grown w w' := by
  have H : Hid (isLab s.toList = true) := hs
  have H2 : Hid (isLab (s ++ t).toList = false) := by
    show isLab (s ++ t).toList = false
    have e : (s ++ t).toList = s.toList ++ t.toList := by simp [ByteArray.toList_eq, ByteArray.data_append]
    rw [e]
    refine no_longer hs ?_
    intro e
    rw [e] at ht
    cases ht
  clear hs
  go_enter Try.func3, Try.ntmps3
  go_wp2_with fail
  refine (bytes_ok _ _ _ h).mono ?_
  rintro e w' ⟨rfl, rfl⟩
  go_wp2_with fail
  refine (label_is s true H.out _).mono ?_
  rintro e w' ⟨rfl, rfl⟩
  go_wp2_with fail
  refine (label_is (s ++ t) false H2.out _).mono ?_
  rintro e w' ⟨rfl, rfl⟩
  go_wp2
  go_ret
  exact ⟨rfl, Grown.refl _⟩

theorem law (s t : ByteArray) (w : World) (h0 : s.size ≤ maxLen) (h1 : t.size ≤ maxLen) :
    Calls Try.prog 3 #[.string s, .string t] w fun e w' => e = .returned (.bool true) ∧ Grown w w' := by
  by_cases h : s.size + t.size ≤ 1048576
  · cases ht : t.toList.isEmpty
    · cases hs : isLab s.toList
      · exact law_none s t w h ht hs
      · exact law_some s t w h ht hs
    · exact law_empty s t w h ht
  · exact law_long s t w h0 h1 (by omega)

end Go.Proofs.Qxb6602642a
