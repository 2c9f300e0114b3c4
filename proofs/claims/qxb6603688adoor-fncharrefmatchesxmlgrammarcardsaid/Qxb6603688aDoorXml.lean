/-
  SEAT b6603688aD: xmlCharCode: a contract over this dump.
-/
import Derived.Test.Qxb6603688aDoorRows
import Derived.Test.Qxb6603688aDoorPlain
import Derived.WalkKit
namespace Go.Proofs.Qxb6603688aDoor.Walks
open Go.RowKit Plain

theorem code_yes (r : Int) (w : World) (h : r = 9 ∨ r = 10 ∨ r = 13 ∨ (32 ≤ r ∧ r ≤ 55295) ∨ (57344 ≤ r ∧ r ≤ 65533) ∨ (65536 ≤ r ∧ r ≤ 1114111)) :
    Calls Tryd.prog 9 #[.int .u32 r] w fun e w' => e = .returned (.bool true) ∧ w' = w := by
  rcases h with rfl | rfl | rfl | ⟨h, h'⟩ | ⟨h, h'⟩ | ⟨h, h'⟩
  · go_enter Tryd.func9, Tryd.ntmps9
    go_wp2
    go_ret
    exact ⟨rfl, rfl⟩
  · go_enter Tryd.func9, Tryd.ntmps9
    go_wp2
    go_ret
    exact ⟨rfl, rfl⟩
  · go_enter Tryd.func9, Tryd.ntmps9
    go_wp2
    go_ret
    exact ⟨rfl, rfl⟩
  all_goals (
    have e9 : (r == 9) = false := by simp; omega
    have e10 : (r == 10) = false := by simp; omega
    have e13 : (r == 13) = false := by simp; omega
    go_enter Tryd.func9, Tryd.ntmps9
    go_wp2
    all_goals (
      go_ret
      exact ⟨by first | rfl | (simp; omega), rfl⟩))

theorem code_no (r : Int) (w : World) (h : r < 9 ∨ (11 ≤ r ∧ r ≤ 12) ∨ (14 ≤ r ∧ r ≤ 31) ∨ (55296 ≤ r ∧ r ≤ 57343) ∨ (65534 ≤ r ∧ r ≤ 65535) ∨ 1114112 ≤ r) :
    Calls Tryd.prog 9 #[.int .u32 r] w fun e w' => e = .returned (.bool false) ∧ w' = w := by
  rcases h with h | ⟨h, h'⟩ | ⟨h, h'⟩ | ⟨h, h'⟩ | ⟨h, h'⟩ | h
  all_goals (
    have e9 : (r == 9) = false := by simp; omega
    have e10 : (r == 10) = false := by simp; omega
    have e13 : (r == 13) = false := by simp; omega
    go_enter Tryd.func9, Tryd.ntmps9
    go_wp2
    all_goals (
      go_ret
      exact ⟨by first | rfl | (simp; omega), rfl⟩))

/-- xmlCharCode: production Char. -/
theorem code_any (n : Nat) (w : World) : Calls Tryd.prog 9 #[.int .u32 (n : Int)] w fun e w' => e = .returned (.bool (xml n)) ∧ w' = w := by
  cases h : xml n with
  | true =>
    refine code_yes _ w ?_
    unfold xml at h
    have := of_decide_eq_true h
    omega
  | false =>
    refine code_no _ w ?_
    unfold xml at h
    have := of_decide_eq_false h
    omega
end Go.Proofs.Qxb6603688aDoor.Walks
