/-
  THE CONTRACTS THAT THE THREE LAWS OF SEAT b6604395a SHARE: the length guards, the certificate's maker, tlsArgs.
-/
import Derived.Test.Qxb6604395aRows
import Derived.WalkKit
import Derived.ProofKit
import Derived.OpenShut
import Derived.Handy
import Derived.Deep.Draws
namespace Go.Proofs.Qxb6604395a.Walks
open Go.ChangeShapes Go.WideShapes Go.ChangeAt Go.RowKit

/-- New memory alone, in the two words that the walks and the row ask for. -/
def Fresh (w w' : World) : Prop := Grown w w' ∧ Below w.heap.size w w'
theorem Fresh.refl (w : World) : Fresh w w := ⟨Grown.refl _, Below.refl _ _⟩
theorem Fresh.trans {a b c : World} (h : Fresh a b) (k : Fresh b c) : Fresh a c :=
  ⟨⟨World.keptBut_trans h.1.1 k.1.1, fun x => (k.1.2.1 x).trans (h.1.2.1 x), Nat.le_trans h.1.2.2 k.1.2.2⟩, h.2.trans (k.2.mono h.2.size)⟩
theorem Fresh.alloc {a b : World} (h : Fresh a b) (c : Array Value) (t : TypeId) : Fresh a (b.alloc (.cells c t)) :=
  ⟨h.1.alloc c t, h.2.alloc h.2.size _⟩
theorem Fresh.allocMap {a b : World} (h : Fresh a b) (es : Array MapEntry) (c : Nat) : Fresh a (b.alloc (.map es c)) :=
  ⟨h.1.allocMap es c, h.2.alloc h.2.size _⟩
theorem Fresh.drew {a b : World} (h : Fresh a b) : Fresh a b.drew := ⟨h.1.drew, h.2.drew⟩
theorem Fresh.drewN {a b : World} (h : Fresh a b) (n : Nat) : Grown a (b.drewN n) := h.1

/-- crypto/x509.NewCertPool: a pointer to new memory; nothing that was there has turned. -/
theorem pool (w : World) :
    Calls Try.prog 14 #[] w fun e w' => ∃ a, e = .returned (.pointer (some a)) ∧ Fresh w w' := by
  have hmm := @run_makeMap Try.prog
  go_enter Try.func14, Try.ntmps14
  go_wp2
  go_ret
  exact ⟨_, rfl, (((Fresh.refl _).allocMap _ _).allocMap _ _).alloc _ _⟩

/-- ZZnewServerCert: a pointer to a new struct that holds the two names. -/
theorem newCert (a0 a1 : ByteArray) (w : World) :
    Calls Try.prog 7 #[.string a0, .string a1] w fun e w' => ∃ b, e = .returned (.pointer (some ⟨b, 0, none⟩)) ∧ b < w'.heap.size ∧
      w'.cell? ⟨b, 0, none⟩ = some (.string a0) ∧ w'.cell? ⟨b, 1, none⟩ = some (.string a1) ∧ Fresh w w' := by
  go_enter Try.func7, Try.ntmps7
  go_wp2_with (go_at_call 14; refine (pool _).mono ?_; rintro e w1 ⟨a, rfl, hf⟩)
  go_ret
  refine ⟨_, rfl, by simp, ?_, ?_, hf.alloc _ _⟩
  · simp [go_sem]
  · simp [go_sem]

/-- The eight cells that tlsArgs lays. -/
def Args (w : World) (b : Nat) (port cert key : ByteArray) : Prop :=
  w.cell? ⟨b, 0, none⟩ = some (.string ⟨#[45, 45, 116, 108, 115, 45, 112, 111, 114, 116]⟩) ∧
  w.cell? ⟨b, 1, none⟩ = some (.string port) ∧
  w.cell? ⟨b, 2, none⟩ = some (.string ⟨#[45, 45, 116, 108, 115, 45, 99, 101, 114, 116, 45, 102, 105, 108, 101]⟩) ∧
  w.cell? ⟨b, 3, none⟩ = some (.string cert) ∧
  w.cell? ⟨b, 4, none⟩ = some (.string ⟨#[45, 45, 116, 108, 115, 45, 107, 101, 121, 45, 102, 105, 108, 101]⟩) ∧
  w.cell? ⟨b, 5, none⟩ = some (.string key) ∧
  w.cell? ⟨b, 6, none⟩ = some (.string ⟨#[45, 45, 116, 108, 115, 45, 97, 117, 116, 104, 45, 99, 108, 105, 101, 110, 116, 115]⟩) ∧
  w.cell? ⟨b, 7, none⟩ = some (.string ⟨#[110, 111]⟩)

theorem Args.on {w w' : World} {b : Nat} {p c k : ByteArray} (h : Args w b p c k) (hb : b < w.heap.size) (hf : Fresh w w') : Args w' b p c k := by
  obtain ⟨h0, h1, h2, h3, h4, h5, h6, h7⟩ := h
  have g : ∀ o, w'.cell? ⟨b, o, none⟩ = w.cell? ⟨b, o, none⟩ := fun o => hf.2.cell (p := ⟨b, o, none⟩) hb
  exact ⟨(g _).trans h0, (g _).trans h1, (g _).trans h2, (g _).trans h3, (g _).trans h4, (g _).trans h5, (g _).trans h6, (g _).trans h7⟩

/-- (*serverCert).tlsArgs: a new array of eight strings. -/
theorem tlsArgs (b : Nat) (p cert key : ByteArray) (w : World) (h0 : w.cell? ⟨b, 0, none⟩ = some (.string cert)) (h1 : w.cell? ⟨b, 1, none⟩ = some (.string key)) :
    Calls Try.prog 15 #[.pointer (some ⟨b, 0, none⟩), .string p] w fun e w' => ∃ a, e = .returned (.slice (some ⟨a, 0, none⟩) 8 8) ∧ a < w'.heap.size ∧ Args w' a p cert key ∧ Fresh w w' := by
  go_enter Try.func15, Try.ntmps15
  go_wp2
  go_region
  go_wp2
  go_ret
  refine ⟨_, rfl, by simp, ?_, (Fresh.refl _).alloc _ _ |>.drew⟩
  exact ⟨by simp [go_sem], by simp [go_sem], by simp [go_sem], by simp [go_sem], by simp [go_sem], by simp [go_sem], by simp [go_sem], by simp [go_sem]⟩

/-- ZZtlsArgs hands tlsArgs's slice on. -/
theorem zzTlsArgs (b : Nat) (p cert key : ByteArray) (w : World) (h0 : w.cell? ⟨b, 0, none⟩ = some (.string cert)) (h1 : w.cell? ⟨b, 1, none⟩ = some (.string key)) :
    Calls Try.prog 8 #[.pointer (some ⟨b, 0, none⟩), .string p] w fun e w' => ∃ a, e = .returned (.slice (some ⟨a, 0, none⟩) 8 8) ∧ a < w'.heap.size ∧ Args w' a p cert key ∧ Fresh w w' := by
  have hc := tlsArgs b p cert key w h0 h1
  go_enter Try.func8, Try.ntmps8
  go_wp2_with (go_at_call 15; refine hc.mono ?_; rintro e w1 ⟨a, rfl, hs, ha, hf⟩)
  go_ret
  exact ⟨a, rfl, hs, ha, hf⟩

/-- The length guard of FnTLSArgsPortMovesOneValue: a bool; the world stands. -/
theorem guard4 (a0 a1 a2 a3 : ByteArray) (w0 : a0.size ≤ maxLen) (w1 : a1.size ≤ maxLen) (w2 : a2.size ≤ maxLen) (w3 : a3.size ≤ maxLen) (w : World) :
    Calls Try.prog 13 #[.string a0, .string a1, .string a2, .string a3] w fun e w' => ∃ b, e = .returned (.bool b) ∧ w' = w := by
  unfold maxLen at w0 w1 w2 w3
  go_enter Try.func13, Try.ntmps13
  go_wp2
  all_goals (go_ret; exact ⟨_, rfl, rfl⟩)

theorem guard3a (a0 a1 a2 : ByteArray) (w0 : a0.size ≤ maxLen) (w1 : a1.size ≤ maxLen) (w2 : a2.size ≤ maxLen) (w : World) :
    Calls Try.prog 6 #[.string a0, .string a1, .string a2] w fun e w' => ∃ b, e = .returned (.bool b) ∧ w' = w := by
  unfold maxLen at w0 w1 w2
  go_enter Try.func6, Try.ntmps6
  go_wp2
  all_goals (go_ret; exact ⟨_, rfl, rfl⟩)

theorem guard3b (a0 a1 a2 : ByteArray) (w0 : a0.size ≤ maxLen) (w1 : a1.size ≤ maxLen) (w2 : a2.size ≤ maxLen) (w : World) :
    Calls Try.prog 11 #[.string a0, .string a1, .string a2] w fun e w' => ∃ b, e = .returned (.bool b) ∧ w' = w := by
  unfold maxLen at w0 w1 w2
  go_enter Try.func11, Try.ntmps11
  go_wp2
  all_goals (go_ret; exact ⟨_, rfl, rfl⟩)
end Go.Proofs.Qxb6604395a.Walks
