/-
  SEAT b6603688aD: FnCharRefMatchesXMLGrammar: the row, and the tied card.
-/
import Derived.Test.Qxb6603688aDoorCards
import Derived.Test.Qxb6603688aDoorTie
import Derived.Test.Qxb6603688aDoorLaid
import Derived.Test.Qxb6603688aDoorMatch
import Derived.SevenTiedAt
import Derived.OpenShut
namespace Go.Proofs.Qxb6603688aDoor.Match
open Go.ChangeShapes Go.WideShapes Go.ChangeAt Go.RowKit Laid Walks

theorem laidOut : laidOutB Tryd.prog = true := by kernel_rfl
theorem cells5 : Tryd.prog.cellsOf 5 = 1 := by kernel_rfl

theorem walk_nil (w : World) (hS : Sent w) :
    Calls Tryd.prog 3 #[.slice none 0 0] w fun e w' => e = .returned (.bool true) ∧ Below w.heap.size w w' :=
  short none 0 0 (by omega) [] w hS ((copy_nil w).mono fun e w' ⟨he, hw⟩ => by
    subst he; subst hw
    exact ⟨_, rfl, ⟨none, 0, rfl, by simp, by omega, fun h => by simp at h⟩, Below.refl _ _⟩)

theorem walk_some (a : Addr) (len cap : Nat) (zs : List Int) (w : World) (hS : Sent w) (hm : len ≤ 9223372036854775807) (hc : ∀ j, j < len → w.cell? (a.add j) = some (.int .u8 (zs.getD j 0)))
    (hb : ∀ j, j < len → 0 ≤ zs.getD j 0 ∧ zs.getD j 0 ≤ 255) :
    Calls Tryd.prog 3 #[.slice (some a) len cap] w fun e w' => e = .returned (.bool true) ∧ Below w.heap.size w w' := by
  by_cases hlen : len ≤ 1048576
  · by_cases h0 : len = 0
    · subst h0
      exact short (some a) 0 cap (by omega) _ w hS (copy_empty a cap zs w)
    · obtain ⟨b, off, spot⟩ := a
      have hspot : spot = none := by simpa [Addr.add] using World.cell?_spot (hc 0 (by omega))
      subst hspot
      exact short _ len cap hlen _ w hS (copy_some b off len cap zs (by omega) hlen hb w (fun j hj => by rw [← add_plain]; exact hc j hj))
  · exact long (some a) len cap (by omega) hm w

set_option maxRecDepth 100000 in
theorem lifted (os : Os) (started : os.Started) (H : Type) (enc : TypeId × Value → H) :
    ReturnsInHanded {} Tryd.checked os 3 .any (fun w args => (Rows.fnCharRefMatchesXMLGrammarSpec.pre enc Tryd.prog Tryd.f3 [] false w args ∧ laidMetH Tryd.prog Laid.list w) ∧ sizedMet enc Tryd.prog Tryd.f3 (OpenSpec.ofChange Rows.fnCharRefMatchesXMLGrammarSpec) false w args)
      (Rows.fnCharRefMatchesXMLGrammarSpec.post enc Tryd.prog Tryd.f3 false true false false) := by
  refine returnsInHanded_of_change_and (C := Tryd.checked) (X := fun w _ => laidMetH Tryd.prog Laid.list w) (fun _ _ _ hh h => h.of_heap hh) own started (by kernel_rfl) Tryd.func3
    (ChangeSpec.witness_shaped (enc := enc) (C := Tryd.checked) (os := os) (X := fun w _ => laidMetH Tryd.prog Laid.list w) false (World.doorLaid Tryd.prog 400 os) #[.slice none 0 0] 8 rfl (World.shaped_of_RefB (by kernel_rfl) (by kernel_rfl)) (by kernel_rfl) (by kernel_rfl) (by kernel_rfl) (door_met os _)) ?_
  intro W base args ds gs before hval0 hW _ _ hL _
  have hval : ∀ (j : Nat) t v, Tryd.f3.params[j]? = some t → args[j]? = some v → Value.okWide Tryd.prog W .any base t v := hval0
  have hW' := hW
  obtain ⟨p, q, hA0, hV, rfl, hfz, hnd⟩ := hW
  have hA : DataW.TrodAll enc Tryd.prog W 0 (fun _ => true) true Tryd.f3.params.toList args.toList ds p := hA0
  rw [Tryd.params3] at hA hval
  obtain ⟨v0, d0, rfl, rfl, h0⟩ := trodAll_one hA
  obtain ⟨rfl, rfl⟩ := trodVars_none hV
  obtain ⟨a0, len, cap, rfl⟩ := okWide_slice Tryd.underlying22 (hval 0 22 v0 rfl rfl)
  have h0k := h0
  obtain ⟨fuel, hf⟩ := h0
  clear hA0 hval0
  simp only [List.append_nil] at hW'
  have hlt : ∀ x ∈ p, x.block < W.heap.size := fun x hx => by simpa using hW'.lt x hx
  have hargs : ∀ (W' : World), Below W.heap.size W W' → DataW.Trod enc Tryd.prog W' 0 (fun b => decide (b < W.heap.size)) true 22 (.slice a0 len cap) d0 p :=
    fun W' hn => Below.trod laidOut (by kernel_rfl) (of_decide_eq_true (by kernel_rfl)) h0k hn hlt
  have hS := sent_of_laid hL
  have fin : ∀ (e : Ending) (W' : World), (e = .returned (.bool true) ∧ Below W.heap.size W W') → ∃ v, e = Ending.returned v ∧ Rows.fnCharRefMatchesXMLGrammarSpec.post enc Tryd.prog Tryd.f3 false true false false W #[.slice a0 len cap] v W' := by
    rintro e W' ⟨rfl, hnx⟩
    refine ⟨_, rfl, _, _, _, [], p, [], hW', ?_, ?_, rfl, hnx.frame _, fun h => by cases h⟩
    · exact trodAll_mk1 (shut_bool Tryd.underlying4 _)
    · exact trodAll_mk1 (hargs _ hnx)
  rcases open_ints Tryd.underlying22 Tryd.underlying5 cells5 hf with ⟨hcs, hx⟩ | ⟨a, len', cap', zs, hcs, _, hl, hm, hz, hx, hcell, hwz⟩
  · simp [Value.cells] at hcs
    obtain ⟨rfl, rfl, rfl⟩ := hcs
    exact (walk_nil W hS).mono fin
  · simp [Value.cells] at hcs
    obtain ⟨rfl, rfl, rfl⟩ := hcs
    simp only [if_true] at hz
    have hlz : len ≤ zs.length := by omega
    refine (walk_some a len cap zs W hS (by unfold maxLen at hm; omega) (fun j hj => hcell j (by omega)) (fun j hj => ?_)).mono fin
    have hmem : zs.getD j 0 ∈ zs := by
      have : j < zs.length := by omega
      simp [List.getElem?_eq_getElem this]
    exact bounds_u8 (hwz _ hmem)

theorem row_holds : Rows.FnCharRefMatchesXMLGrammarSaid :=
  OpenClaim.holds_of_wide 3 Tryd.f3 rfl rfl rfl rfl rfl rfl rfl ⟨rfl, rfl, rfl, rfl, rfl⟩ rfl rfl rfl rfl rfl (by kernel_rfl) Tryd.func3 (by kernel_rfl)
    (of_decide_eq_true (by kernel_rfl)) (by unfold Func.isWrapper; first | (rw [if_pos (by decide +kernel)]; kernel_rfl) | (rw [if_neg (by decide +kernel)]; exact ⟨rfl, rfl⟩))
    (fun os started H enc _ => lifted os started H enc)

/-- ████ THE CARD ████ -/
theorem proved : Rows.FnCharRefMatchesXMLGrammarCardSaid :=
  Claim7.holds_tied_plain_at .later [] [.data, .data, .data, .sentinel, .sentinel] true Rows.fnCharRefMatchesXMLGrammarCard.stood.harness true
    row_holds (fun _ h => by cases h) (by kernel_rfl) (fun _ h => by cases h) fnCharRefMatchesXMLGrammar_row_tie rfl ⟨rfl, rfl⟩ (by kernel_rfl) rfl
    (fun f fn hf hfn => by
      obtain rfl : f = 3 := Option.some.inj ((show Tryd.prog.funcNamed Rows.fnCharRefMatchesXMLGrammarRow.func = some 3 by kernel_rfl).symm.trans hf) |>.symm
      obtain rfl : fn = Tryd.f3 := (Option.some.inj (Tryd.func3.symm.trans hfn)).symm
      exact ⟨by kernel_rfl, fun j t ht => by
        rw [Tryd.params3] at ht
        have hm : t ∈ [22] := by simpa using Array.mem_of_getElem? ht
        have hall : ([22].all fun u => !Tryd.prog.wantsStandIn u) = true := by kernel_rfl
        exact (show Tryd.prog.wantsStandIn t = false by simpa using List.all_eq_true.1 hall t hm)⟩)
    (by kernel_rfl)
#print axioms proved
end Go.Proofs.Qxb6603688aDoor.Match
