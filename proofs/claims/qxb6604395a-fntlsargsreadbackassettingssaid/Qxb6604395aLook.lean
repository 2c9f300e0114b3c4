/-
  THE CONTRACTS OF lookupFirstB1, hasPrefixB1 AND isBaseFlagB1 at the eight cells that tlsArgs lays.
-/
import Derived.Test.Qxb6604395aWalks
namespace Go.Proofs.Qxb6604395a.Walks
open Go.ChangeShapes Go.WideShapes Go.ChangeAt Go.RowKit

theorem Args.drewN {w : World} {b : Nat} {p c k : ByteArray} (h : Args w b p c k) (n : Nat) : Args (w.drewN n) b p c k := h

theorem look_port (b : Nat) (p c k : ByteArray) (w : World) (h : Args w b p c k) :
    Calls Try.prog 10 #[.slice (some ⟨b, 0, none⟩) 8 8, .string ⟨#[45, 45, 116, 108, 115, 45, 112, 111, 114, 116]⟩] w fun e w' => e = .returned (.tuple #[.string p, .bool true]) ∧ w' = w := by
  obtain ⟨h0, h1, h2, h3, h4, h5, h6, h7⟩ := h
  go_enter Try.func10, Try.ntmps10
  go_wp2
  go_rounds 5
  go_ret2
  exact ⟨rfl, rfl⟩

theorem look_cert (b : Nat) (p c k : ByteArray) (w : World) (h : Args w b p c k) :
    Calls Try.prog 10 #[.slice (some ⟨b, 0, none⟩) 8 8, .string ⟨#[45, 45, 116, 108, 115, 45, 99, 101, 114, 116, 45, 102, 105, 108, 101]⟩] w fun e w' => e = .returned (.tuple #[.string c, .bool true]) ∧ w' = w := by
  obtain ⟨h0, h1, h2, h3, h4, h5, h6, h7⟩ := h
  go_enter Try.func10, Try.ntmps10
  go_wp2
  go_rounds 5
  go_ret2
  exact ⟨rfl, rfl⟩

theorem look_key (b : Nat) (p c k : ByteArray) (w : World) (h : Args w b p c k) :
    Calls Try.prog 10 #[.slice (some ⟨b, 0, none⟩) 8 8, .string ⟨#[45, 45, 116, 108, 115, 45, 107, 101, 121, 45, 102, 105, 108, 101]⟩] w fun e w' => e = .returned (.tuple #[.string k, .bool true]) ∧ w' = w := by
  obtain ⟨h0, h1, h2, h3, h4, h5, h6, h7⟩ := h
  go_enter Try.func10, Try.ntmps10
  go_wp2
  go_rounds 5
  go_ret2
  exact ⟨rfl, rfl⟩

theorem look_auth (b : Nat) (p c k : ByteArray) (w : World) (h : Args w b p c k) :
    Calls Try.prog 10 #[.slice (some ⟨b, 0, none⟩) 8 8, .string ⟨#[45, 45, 116, 108, 115, 45, 97, 117, 116, 104, 45, 99, 108, 105, 101, 110, 116, 115]⟩] w fun e w' => e = .returned (.tuple #[.string ⟨#[110, 111]⟩, .bool true]) ∧ w' = w := by
  obtain ⟨h0, h1, h2, h3, h4, h5, h6, h7⟩ := h
  go_enter Try.func10, Try.ntmps10
  go_wp2
  go_rounds 5
  go_ret2
  exact ⟨rfl, rfl⟩

/-- hasPrefixB1 at the prefix of the TLS flags. -/
theorem prefix_tls (s : ByteArray) (w : World) (hs : 6 ≤ s.size) (hm : s.size ≤ 100) (hp : s.extract 0 6 = ⟨#[45, 45, 116, 108, 115, 45]⟩) :
    Calls Try.prog 9 #[.string s, .string ⟨#[45, 45, 116, 108, 115, 45]⟩] w fun e w' => e = .returned (.bool true) ∧ w' = w := by
  go_enter Try.func9, Try.ntmps9
  go_wp2
  go_ret
  exact ⟨rfl, rfl⟩
end Go.Proofs.Qxb6604395a.Walks
