/-
  SEAT b6603688aD: FnCharRefReadsBackItsEncoding: the row, and the tied card.
-/
import Derived.Test.Qxb6603688aDoorCards
import Derived.Test.Qxb6603688aDoorTie
import Derived.Test.Qxb6603688aDoorLaid
import Derived.Test.Qxb6603688aDoorBack
import Derived.SevenTiedAt
import Derived.OpenShut
namespace Go.Proofs.Qxb6603688aDoor.Back
open Go.ChangeShapes Go.WideShapes Go.ChangeAt Go.RowKit Laid Walks

theorem walk (v : Int) (pad : Int) (hex upper : Bool) (wv : (Lit.int .u32 v).wf = true) (wp : (Lit.int .u8 pad).wf = true) (w : World) (hS : Sent w) :
    Calls Tryd.prog 4 #[.int .u32 v, .int .u8 pad, .bool hex, .bool upper] w fun e w' => e = .returned (.bool true) ∧ Below w.heap.size w w' := by
  have hv := bounds_u32 wv
  have hp := bounds_u8 wp
  obtain ⟨vN, rfl⟩ : ∃ n : Nat, v = (n : Int) := ⟨v.toNat, by omega⟩
  obtain ⟨pN, rfl⟩ : ∃ n : Nat, pad = (n : Int) := ⟨pad.toNat, by omega⟩
  cases hex with
  | false => exact dec vN pN (by omega) (by omega) upper w hS
  | true => exact Back.hex vN pN (by omega) (by omega) upper w hS

set_option maxRecDepth 100000 in
theorem lifted (os : Os) (started : os.Started) (H : Type) (enc : TypeId × Value → H) :
    ReturnsInHanded {} Tryd.checked os 4 .any (fun w args => (Rows.fnCharRefReadsBackItsEncodingSpec.pre enc Tryd.prog Tryd.f4 [] false w args ∧ laidMetH Tryd.prog Laid.list w) ∧ sizedMet enc Tryd.prog Tryd.f4 (OpenSpec.ofChange Rows.fnCharRefReadsBackItsEncodingSpec) false w args)
      (Rows.fnCharRefReadsBackItsEncodingSpec.post enc Tryd.prog Tryd.f4 false true false false) := by
  refine returnsInHanded_of_change_and (C := Tryd.checked) (X := fun w _ => laidMetH Tryd.prog Laid.list w) (fun _ _ _ hh h => h.of_heap hh) own started (by kernel_rfl) Tryd.func4
    (ChangeSpec.witness_shaped (enc := enc) (C := Tryd.checked) (os := os) (X := fun w _ => laidMetH Tryd.prog Laid.list w) false (World.doorLaid Tryd.prog 400 os) #[.int .u32 0, .int .u8 0, .bool false, .bool false] 8 rfl (World.shaped_of_RefB (by kernel_rfl) (by kernel_rfl)) (by kernel_rfl) (by kernel_rfl) (by kernel_rfl) (door_met os _)) ?_
  intro W base args ds gs before hval0 hW _ _ hL _
  have hval : ∀ (j : Nat) t v, Tryd.f4.params[j]? = some t → args[j]? = some v → Value.okWide Tryd.prog W .any base t v := hval0
  have hW' := hW
  obtain ⟨p, q, hA0, hV, rfl, hfz, hnd⟩ := hW
  have hA : DataW.TrodAll enc Tryd.prog W 0 (fun _ => true) true Tryd.f4.params.toList args.toList ds p := hA0
  rw [Tryd.params4] at hA hval
  obtain ⟨v0, v1, v2, v3, d0, d1, d2, d3, p0, p1, p2, p3, rfl, rfl, rfl, h0, h1, h2, h3⟩ := trodAll_four hA
  obtain ⟨rfl, rfl⟩ := trodVars_none hV
  obtain ⟨a0, rfl, rfl, rfl, w0⟩ := open_int Tryd.underlying27 (hval 0 27 v0 rfl rfl) h0
  obtain ⟨a1, rfl, rfl, rfl, w1⟩ := open_int Tryd.underlying5 (hval 1 5 v1 rfl rfl) h1
  obtain ⟨a2, rfl, rfl, rfl⟩ := open_bool Tryd.underlying4 (hval 2 4 v2 rfl rfl) h2
  obtain ⟨a3, rfl, rfl, rfl⟩ := open_bool Tryd.underlying4 (hval 3 4 v3 rfl rfl) h3
  clear hA0 hval0
  simp only [List.append_nil] at hW'
  refine (walk a0 a1 a2 a3 w0 w1 W (sent_of_laid hL)).mono fun e W' ⟨he, hnx⟩ => ?_
  subst he
  refine ⟨_, rfl, _, _, _, [], [], [], hW', ?_, ?_, rfl, hnx.frame _, fun h => by cases h⟩
  · exact trodAll_mk1 (shut_bool Tryd.underlying4 _)
  · exact trodAll_mk4 (shut_int Tryd.underlying27 w0) (shut_int Tryd.underlying5 w1) (shut_bool Tryd.underlying4 _) (shut_bool Tryd.underlying4 _)

theorem row_holds : Rows.FnCharRefReadsBackItsEncodingSaid :=
  OpenClaim.holds_of_wide 4 Tryd.f4 rfl rfl rfl rfl rfl rfl rfl ⟨rfl, rfl, rfl, rfl, rfl⟩ rfl rfl rfl rfl rfl (by kernel_rfl) Tryd.func4 (by kernel_rfl)
    (of_decide_eq_true (by kernel_rfl)) (by unfold Func.isWrapper; first | (rw [if_pos (by decide +kernel)]; kernel_rfl) | (rw [if_neg (by decide +kernel)]; exact ⟨rfl, rfl⟩))
    (fun os started H enc _ => lifted os started H enc)

/-- ████ THE CARD ████ -/
theorem proved : Rows.FnCharRefReadsBackItsEncodingCardSaid :=
  Claim7.holds_tied_plain_at .later [] [.data, .data, .data, .sentinel, .sentinel] true Rows.fnCharRefReadsBackItsEncodingCard.stood.harness true
    row_holds (fun _ h => by cases h) (by kernel_rfl) (fun _ h => by cases h) fnCharRefReadsBackItsEncoding_row_tie rfl ⟨rfl, rfl⟩ (by kernel_rfl) rfl
    (fun f fn hf hfn => by
      obtain rfl : f = 4 := Option.some.inj ((show Tryd.prog.funcNamed Rows.fnCharRefReadsBackItsEncodingRow.func = some 4 by kernel_rfl).symm.trans hf) |>.symm
      obtain rfl : fn = Tryd.f4 := (Option.some.inj (Tryd.func4.symm.trans hfn)).symm
      exact ⟨by kernel_rfl, fun j t ht => by
        rw [Tryd.params4] at ht
        have hm : t ∈ [27, 5, 4, 4] := by simpa using Array.mem_of_getElem? ht
        have hall : ([27, 5, 4, 4].all fun u => !Tryd.prog.wantsStandIn u) = true := by kernel_rfl
        exact (show Tryd.prog.wantsStandIn t = false by simpa using List.all_eq_true.1 hall t hm)⟩)
    (by kernel_rfl)
#print axioms proved
end Go.Proofs.Qxb6603688aDoor.Back
