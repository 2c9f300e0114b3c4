/-
  SEAT b6603688aD: what the rows' list of package-level variables gives the walks (the two sentinels' cells), and that the door's own heap meets the list.
-/
import Derived.Test.Qxb6603688aDoorRef
import Derived.ProofKit
import Derived.LaidMore
import Derived.Stop.Joined
import Derived.Stop.LaidErr
namespace Go.Proofs.Qxb6603688aDoor.Laid
open Go.RowKit Walks

theorem own : ownKnob Tryd.prog.godebug = none := by kernel_rfl
theorem gES : Tryd.prog.globalNamed "strconv.ErrSyntax" = some 0 := by kernel_rfl
theorem gER : Tryd.prog.globalNamed "strconv.ErrRange" = some 1 := by kernel_rfl
theorem tES : (Tryd.prog.globals[0]?).map (·.type) = some 34 := by kernel_rfl
theorem tER : (Tryd.prog.globals[1]?).map (·.type) = some 34 := by kernel_rfl

def list : List (String × DataW Unit) := Rows.fnCharRefMatchesXMLGrammarRow.laid

theorem sent_of_laid {W : World} (h : laidMetH Tryd.prog list W) : Sent W := by
  rw [MakeChecks.laidMetH_plain _ _ _ (by kernel_rfl)] at h
  have h3 : laidMet Tryd.prog [("strconv.ErrRange", Rows.laid_strconv_ErrRange), ("strconv.ErrSyntax", Rows.laid_strconv_ErrSyntax)] W := laidMet.tail (laidMet.tail (laidMet.tail h))
  obtain ⟨ps, ⟨g0, t0, cs0, f0, p0, q0, hg0, ht0, hv0, hd0, ⟨g1, t1, cs1, f1, p1, q1, hg1, ht1, hv1, hd1, _, _⟩, _⟩, _, _⟩ := h3
  obtain rfl := Option.some.inj (gER.symm.trans hg0)
  obtain rfl := Option.some.inj (gES.symm.trans hg1)
  obtain rfl := Option.some.inj (tER.symm.trans ht0)
  obtain rfl := Option.some.inj (tES.symm.trans ht1)
  obtain ⟨_, u0, v0, e0, _, _⟩ := iface_of_trod Tryd.underlying34 hd0
  obtain ⟨_, u1, v1, e1, _, _⟩ := iface_of_trod Tryd.underlying34 hd1
  have c0 := World.var?_cell hg0 hv0 0
  have c1 := World.var?_cell hg1 hv1 0
  rw [Array.eq_one_of_toList e0] at c0
  rw [Array.eq_one_of_toList e1] at c1
  exact ⟨⟨u1, v1, by simpa using c1⟩, ⟨u0, v0, by simpa using c0⟩⟩

theorem door_met (os : Os) (args : Array Value) : laidMetH Tryd.prog list ((World.doorLaid Tryd.prog 400 os).forCall (fun _ _ => 0) ⟨#[], args, []⟩).memory :=
  laidMetH_of_parts3 (fuel := 8) (laidMet_of_run' 8 (by kernel_rfl) (by kernel_rfl)) (by kernel_rfl) (by kernel_rfl)
end Go.Proofs.Qxb6603688aDoor.Laid
