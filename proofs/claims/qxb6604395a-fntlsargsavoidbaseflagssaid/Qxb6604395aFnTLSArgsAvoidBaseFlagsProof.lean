/-
  THE SHELL OF A PROOF OF 'Rows.FnTLSArgsAvoidBaseFlagsSaid' ('example.com/berth/berth/zzlaws_internal_redisserver_b1.FnTLSArgsAvoidBaseFlags'), WRITTEN BY PROGRAM (proof-skeleton.mjs) off the guide's own print for that function. Not trusted: Lean checks it.
  The walk is filled (seat b6604395a); all else is the guide's template at this function's number and types.
-/
import Derived.Test.Qxb6604395aRows
import Derived.WalkKit
import Derived.ProofKit
import Derived.OpenShut
import Derived.ShutString
import Derived.Handy
import Derived.Deep.QuietTactic
import Derived.BigQuiet
import Derived.Test.Qxb6604395aLook
namespace Go.Proofs.Qxb6604395a.fnTLSArgsAvoidBaseFlags
open Go.ChangeShapes Go.WideShapes Go.ChangeAt Go.RowKit
open Go.ChangeMaps (open_string shut_string)
open Walks
set_option linter.unusedVariables false      -- a walk need not use every 'w<i>' (that an integer argument fits its kind)

theorem own : ownKnob Try.prog.godebug = none := by kernel_rfl

/-! ### STEP 1: THE WALK: the Go text returns true. 'Grown w w'': the world has at most new blocks (Derived/RowKit3.lean). Part the cases AHEAD of 'go_enter' where a test parts the walk; take each callee by a contract of your own. -/
theorem walk (a0 : ByteArray) (a1 : ByteArray) (a2 : ByteArray) (w0 : a0.size ≤ maxLen) (w1 : a1.size ≤ maxLen) (w2 : a2.size ≤ maxLen) (w : World) :
    Calls Try.prog 4 #[.string a0, .string a1, .string a2] w fun e w' => e = .returned (.bool true) ∧ Grown w w' := by
  have hG := Walks.guard3b a0 a1 a2 w0 w1 w2 w
  have hC := Walks.newCert a0 a1 w
  go_enter Try.func4, Try.ntmps4
  go_wp2_with (go_at_call 11; refine hG.mono ?_; rintro e w' ⟨g, rfl, rfl⟩; cases g)
  iterate 4 (· go_ret; exact ⟨rfl, Grown.refl _⟩)
  refine hC.mono ?_
  rintro e wa ⟨b, rfl, hb, hb0, hb1, hfa⟩
  go_wp2_with fail
  refine (Walks.zzTlsArgs b a2 a0 a1 wa hb0 hb1).mono ?_
  rintro e wc ⟨x, rfl, hx, hax, hfb⟩
  have hFH : Hid (Fresh w' wc) := hfa.trans hfb
  have hA : Hid (Args wc x a2 a0 a1) := hax
  clear hb0 hb1 hb hC hG hfa hfb hx
  obtain ⟨x0, x1, x2, x3, x4, x5, x6, x7⟩ := hax
  go_wp2
  refine wp_loop_rounds 5 ?_
  rw [rounds_succ]; go_wp2
  refine wp_loop_rounds 4 ?_
  iterate 3 (rw [rounds_succ]; go_wp2; go_quiet (fail); go_wp2)
  rw [rounds_succ]; go_wp2
  rw [rounds_succ]; go_wp2
  refine wp_loop_rounds 3 ?_
  iterate 2 (rw [rounds_succ]; go_wp2; go_quiet (fail); go_wp2)
  rw [rounds_succ]; go_wp2
  rw [rounds_succ]; go_wp2
  refine wp_loop_rounds 2 ?_
  iterate 1 (rw [rounds_succ]; go_wp2; go_quiet (fail); go_wp2)
  rw [rounds_succ]; go_wp2
  rw [rounds_succ]; go_wp2
  refine wp_loop_rounds 1 ?_
  rw [rounds_succ]; go_wp2
  rw [rounds_succ]; go_wp2_with fail
  refine (look_port x a2 a0 a1 _ (hA.out.drewN _)).mono ?_
  rintro e wz ⟨rfl, rfl⟩
  go_wp2
  go_ret
  exact ⟨rfl, hFH.out.drewN _⟩

/-! ### THE ROW's STEP: WRITTEN OUT: LEAVE IT -/
set_option maxRecDepth 100000 in
theorem lifted (os : Os) (started : os.Started) (H : Type) (enc : TypeId × Value → H) :
    ReturnsInHanded {} Try.checked os 4 .any (Rows.fnTLSArgsAvoidBaseFlagsSpec.pre6 enc Try.prog Try.f4 Rows.fnTLSArgsAvoidBaseFlagsRow.domain false) (Rows.fnTLSArgsAvoidBaseFlagsSpec.post enc Try.prog Try.f4 false true false false) := by
  refine returnsInHanded_of_change (C := Try.checked) own started (by kernel_rfl) Try.func4
    (ChangeSpec.witness6 (enc := enc) (C := Try.checked) false ⟨#[], #[.string ByteArray.empty, .string ByteArray.empty, .string ByteArray.empty], []⟩ 8 (by kernel_rfl) (by kernel_rfl) (by kernel_rfl) (by kernel_rfl)) ?_
  intro W base args ds gs before hval0 hW hcnd _
  have hval : ∀ (j : Nat) t v, Try.f4.params[j]? = some t → args[j]? = some v → Value.okWide Try.prog W .any base t v := hval0
  have hW' := hW
  obtain ⟨p, q, hA0, hV, rfl, hfz, hnd⟩ := hW
  have hA : DataW.TrodAll enc Try.prog W 0 (fun _ => true) true Try.f4.params.toList args.toList ds p := hA0
  rw [Try.params4] at hA hval
  obtain ⟨v0, vs0, d0, ds0, p0, q0, hargs, rfl, rfl, h0, r0⟩ := trodAll_cons hA
  obtain ⟨v1, vs1, d1, ds1, p1, q1, rfl, rfl, rfl, h1, r1⟩ := trodAll_cons r0
  obtain ⟨v2, vs2, d2, ds2, p2, q2, rfl, rfl, rfl, h2, r2⟩ := trodAll_cons r1
  obtain ⟨rfl, rfl, rfl⟩ := trodAll_nil r2
  obtain rfl : args = #[v0, v1, v2] := by cases args; simp_all
  obtain ⟨rfl, rfl⟩ := trodVars_none hV
  obtain ⟨a0, rfl, rfl, rfl, w0⟩ := open_string Try.underlying9 (hval 0 9 v0 rfl rfl) h0
  obtain ⟨a1, rfl, rfl, rfl, w1⟩ := open_string Try.underlying9 (hval 1 9 v1 rfl rfl) h1
  obtain ⟨a2, rfl, rfl, rfl, w2⟩ := open_string Try.underlying9 (hval 2 9 v2 rfl rfl) h2
  clear hA0 hval0
  simp only [List.append_nil] at hW'
  refine (walk a0 a1 a2 w0 w1 w2 W).mono fun e W' ⟨he, hg⟩ => ?_
  subst he
  exact ⟨_, rfl, post_of_same (pa := []) (pv := []) hW' (fun _ _ _ => (trodAll_cons_mk (shut_bool Try.underlying4 _) trodAll_mk0)) (fun sp _ => (trodAll_cons_mk (shut_string Try.underlying9 w0) (trodAll_cons_mk (shut_string Try.underlying9 w1) (trodAll_cons_mk (shut_string Try.underlying9 w2) trodAll_mk0)))) (fun _ _ => rfl) rfl
    (hg.frame _) hg.2.1 (ok_one (by kernel_rfl) rfl (okWide_bool_mk Try.underlying4 _))⟩

theorem over : Rows.fnTLSArgsAvoidBaseFlagsRow.holds Try.pinned (OpenSpec.ofChange Rows.fnTLSArgsAvoidBaseFlagsSpec) :=
  OpenClaim.holds_of_wide 4 Try.f4 rfl rfl rfl rfl rfl rfl rfl ⟨rfl, rfl, rfl, rfl, rfl⟩ rfl rfl rfl rfl rfl (by kernel_rfl) Try.func4 (by kernel_rfl)
    (of_decide_eq_true (by kernel_rfl)) (by unfold Func.isWrapper; first | (rw [if_pos (by decide +kernel)]; kernel_rfl) | (rw [if_neg (by decide +kernel)]; exact ⟨rfl, rfl⟩))
    (fun os started H enc _ => lifted os started H enc)

/-- ████ THE STATEMENT ████ -/
theorem proved : Rows.FnTLSArgsAvoidBaseFlagsSaid :=
  over
#print axioms proved
end Go.Proofs.Qxb6604395a.fnTLSArgsAvoidBaseFlags
