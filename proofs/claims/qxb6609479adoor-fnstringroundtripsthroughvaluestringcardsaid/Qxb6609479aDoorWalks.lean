import Derived.Test.Qxb6609479aDoorRows
import Derived.WalkKit
import Derived.WalkSpells
import Derived.RowKit3
namespace Go.Proofs.Qxb6609479aDoor
open Go.RowKit

theorem bytes_yes (a : ByteArray) (w : World) (h : (a.size : Int) ≤ 1048576) :
    Calls Tryd.prog 6 #[.string a] w fun e w' => e = .returned (.bool true) ∧ w' = w := by
  go_enter Tryd.func6, Tryd.ntmps6
  go_wp2
  go_ret
  exact ⟨rfl, rfl⟩
theorem string_any (s : ByteArray) (w : World) :
    Calls Tryd.prog 7 #[.string s] w fun e w' => e = .returned (.agg #[.int .u8 2, .int .i64 0, .string s]) ∧ ∃ c1 : Array Value, w' = w.alloc (.cells c1 25) := by
  go_enter Tryd.func7, Tryd.ntmps7
  go_wp2
  simp [bodyPost, results, Tryd.results7, go_sem]
  exact ⟨_, rfl⟩
/-- (Value).String of a string value. -/
theorem text_any (s : ByteArray) (w : World) :
    Calls Tryd.prog 8 #[.agg #[.int .u8 2, .int .i64 0, .string s]] w fun e w' => e = .returned (.string s) ∧ ∃ c1 : Array Value, w' = w.alloc (.cells c1 25) := by
  go_enter Tryd.func8, Tryd.ntmps8
  go_wp2
  go_ret
  exact ⟨rfl, _, rfl⟩
theorem law_any (s : ByteArray) (hs : s.size ≤ maxLen) (w : World) :
    Calls Tryd.prog 3 #[.string s] w fun e w' => e = .returned (.bool true) ∧ Grown w w' := by
  unfold maxLen at hs
  by_cases h : 1048576 < (s.size : Int)
  · go_enter Tryd.func3, Tryd.ntmps3
    go_wp2
    go_ret
    exact ⟨rfl, Grown.refl _⟩
  go_enter Tryd.func3, Tryd.ntmps3
  go_wp2_with (first | (go_at_call 6; refine (bytes_yes _ _ (by omega)).mono ?_; rintro e w' ⟨rfl, rfl⟩) | (go_at_call 7; refine (string_any _ _).mono ?_; rintro e w' ⟨rfl, c, rfl⟩) | (go_at_call 8; refine (text_any _ _).mono ?_; rintro e w' ⟨rfl, c2, rfl⟩))
  go_ret
  exact ⟨by simp, by repeat (first | exact Grown.refl _ | apply Grown.drew | apply Grown.alloc)⟩
end Go.Proofs.Qxb6609479aDoor
