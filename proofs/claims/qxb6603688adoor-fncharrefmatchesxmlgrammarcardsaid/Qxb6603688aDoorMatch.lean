/-
  SEAT b6603688aD: FnCharRefMatchesXMLGrammar: the walk.
-/
import Derived.Test.Qxb6603688aDoorModel
import Derived.Test.Qxb6603688aDoorCopy
namespace Go.Proofs.Qxb6603688aDoor.Match
open Go.RowKit Plain Walks
set_option linter.unusedVariables false

/-- A row longer than 1 MiB: the law says true at once. -/
theorem long (ad : Option Addr) (len cap : Nat) (h : 1048576 < len) (hm : len ≤ 9223372036854775807) (w : World) :
    Calls Tryd.prog 3 #[.slice ad len cap] w fun e w' => e = .returned (.bool true) ∧ Below w.heap.size w w' := by
  have hG := guard_no ad len cap h hm w
  go_enter Tryd.func3, Tryd.ntmps3
  go_wp2_with (go_at_call 5; refine hG.mono ?_; rintro e w' ⟨rfl, rfl⟩)
  go_ret
  exact ⟨rfl, Below.refl _ _⟩

/-- Every other row, by the copy's contract. -/
theorem short (ad : Option Addr) (len cap : Nat) (h : len ≤ 1048576) (l : List UInt8) (w : World) (hS : Sent w)
    (hC : Calls Tryd.prog 6 #[.slice ad len cap] w fun e w' => ∃ v, e = .returned v ∧ Row w' v l ∧ Below w.heap.size w w') :
    Calls Tryd.prog 3 #[.slice ad len cap] w fun e w' => e = .returned (.bool true) ∧ Below w.heap.size w w' := by
  have hG := guard_yes ad len cap h w
  go_enter Tryd.func3, Tryd.ntmps3
  go_wp2_with (go_at_call 5; refine hG.mono ?_; rintro e w' ⟨rfl, rfl⟩)
  refine hC.mono ?_
  rintro e w1 ⟨v, rfl, hR, hb1⟩
  have hZ := zzCharRef v l w1 (hS.on hb1) hR
  obtain ⟨ad1, cap1, rfl, hq1, hq2, hrow⟩ := id hR
  have hM : ∀ w2, Below w1.heap.size w1 w2 → Calls Tryd.prog 8 #[.slice ad1 l.length cap1] w2 fun e w' => e = .returned (refVal (refOf l)) ∧ w' = w2 := fun w2 hb2 =>
    model_any _ l w2 ⟨ad1, cap1, rfl, hq1, hq2, fun h1 => by
      obtain ⟨b, e, hc⟩ := hrow h1
      exact ⟨b, e, fun j hj => (hb2.cell (p := ⟨b, j, none⟩) (Lib.lt_of_cell (hc j hj))).trans (hc j hj)⟩⟩
  have hM : Hid (∀ w2, Below w1.heap.size w1 w2 → Calls Tryd.prog 8 #[.slice ad1 l.length cap1] w2 fun e w' => e = .returned (refVal (refOf l)) ∧ w' = w2) := hM
  clear hrow hR hC hG
  unfold refVal at hZ hM
  generalize (((refOf l).getD 0 : Nat) : Int) = x at hZ hM
  generalize (refOf l).isSome = y at hZ hM
  go_wp2_with fail
  refine hZ.mono ?_
  rintro e w2 ⟨rfl, hb2⟩
  clear hZ
  have hm := hM.out w2 hb2
  clear hM
  go_wp2_with fail
  refine hm.mono ?_
  rintro e w3 ⟨rfl, rfl⟩
  clear hm
  go_wp2
  go_ret
  exact ⟨by simp, hb1.trans (hb2.mono hb1.size)⟩
end Go.Proofs.Qxb6603688aDoor.Match
