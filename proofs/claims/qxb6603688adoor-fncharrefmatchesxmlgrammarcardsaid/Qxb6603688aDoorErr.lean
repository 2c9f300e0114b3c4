/-
  SEAT b6603688aD: the road of an error out of strconv: the copy of the string (the kit's contract, laid here), the makers of the two errors, toError: over this dump, after the kit's worked texts.
-/
import Derived.Test.Qxb6603688aDoorRows
import Derived.Lib.Strings
import Derived.Lib.Walk
import Derived.Lib.Hide
import Derived.Lib.AtoiErrMem
import Derived.Shelf.Pu.Clone
import Derived.Lib.IfaceEq
import Derived.Laws.MakeOwn
import Derived.Deep.RegionWith
import Derived.RegionTactic
import Derived.WalkKit
import Derived.BigCall
import Derived.BigGuard
namespace Go.Proofs.Qxb6603688aDoor.Walks
open Go.RowKit Go.Shelf

theorem info5 : (Tryd.prog.info? 5).map (fun i => (i.zero, i.size, i.bytes)) = some (some (.int .u8 0), 1, 1) := by kernel_rfl

/-- The kit's contract of internal/stringslite.Clone, laid at this dump: its numbers here. -/
def ren22 : Ren := ⟨fun | 25 => 22 | n => n, fun | 37 => 22 | 47 => 51 | n => n, fun n => n⟩

theorem lays22 : LaysPu.n25 Tryd.prog ren22 := {
  mixed := by kernel_rfl
  f25 := by kernel_rfl
  t0 := by kernel_rfl
  a0 := fun _ => by kernel_rfl
  z0 := fun _ => by kernel_rfl
  v0 := fun _ => by kernel_rfl
  i0 := by kernel_rfl
  t3 := by kernel_rfl
  a3 := fun _ => by kernel_rfl
  z3 := fun _ => by kernel_rfl
  v3 := fun _ => by kernel_rfl
  i3 := by kernel_rfl
  t4 := by kernel_rfl
  a4 := fun _ => by kernel_rfl
  z4 := fun _ => by kernel_rfl
  v4 := fun _ => by kernel_rfl
  i4 := by kernel_rfl
  t5 := by kernel_rfl
  a5 := fun _ => by kernel_rfl
  z5 := fun _ => by kernel_rfl
  v5 := fun _ => by kernel_rfl
  i5 := by kernel_rfl
  t9 := by kernel_rfl
  a9 := fun _ => by kernel_rfl
  z9 := fun _ => by kernel_rfl
  v9 := fun _ => by kernel_rfl
  i9 := by kernel_rfl
  t37 := by kernel_rfl
  a37 := fun _ => by kernel_rfl
  z37 := fun _ => by kernel_rfl
  v37 := fun _ => by kernel_rfl
  i37 := by kernel_rfl
  t47 := by kernel_rfl
  a47 := fun _ => by kernel_rfl
  z47 := fun _ => by kernel_rfl
  v47 := fun _ => by kernel_rfl
  i47 := by kernel_rfl }

theorem clone (s : ByteArray) (w : World) (hlim : s.size ≤ 281474976710656) :
    Calls Tryd.prog 22 #[.string s] w fun e w' => e = .returned (.string s) ∧ Below w.heap.size w w' :=
  AnyPu.stringslite_Clone lays22 s w hlim
set_option maxHeartbeats 6400000 in
set_option maxRecDepth 100000 in
/-- The maker of strconv's error for a wrong digit (function 18): a pointer to a new block; of what was there nothing has turned. -/
theorem errS (fn s : ByteArray) (te : TypeId) (pe : Value) (w : World) (hlim : s.size ≤ 281474976710656) (hv : w.cell? ⟨0, 0, none⟩ = some (.iface te pe)) :
    Calls Tryd.prog 18 #[.string fn, .string s] w fun e w' => ∃ N, e = .returned (.pointer (some ⟨N, 0, none⟩)) ∧ Below w.heap.size w w' := by
  have hG : 0 < w.heap.size := Lib.lt_of_cell hv
  have hvd : w.drew.cell? ⟨0, 0, none⟩ = some (.iface te pe) := hv
  go_enter Tryd.func18, Tryd.ntmps18
  go_wp2
  go_region_with (
      go_at_call 22
      refine (clone s _ hlim).mono ?_
      rintro e w2 ⟨rfl, hbel⟩
      have hv2 : w2.cell? ⟨0, 0, none⟩ = some (.iface te pe) := (hbel.cell (show (⟨0, 0, none⟩ : Addr).block < w.drew.heap.size from hG)).trans hvd)
  all_goals (
    go_wp2
    go_ret
    have hs2 : w.heap.size ≤ w2.heap.size := hbel.size
    exact ⟨_, rfl, ((Below.drew (Below.refl _ w)).trans hbel).alloc hs2 _⟩)

set_option maxHeartbeats 6400000 in
set_option maxRecDepth 100000 in
/-- The maker of strconv's error for a number that does not fit (function 19): likewise. -/
theorem errR (fn s : ByteArray) (te : TypeId) (pe : Value) (w : World) (hlim : s.size ≤ 281474976710656) (hv : w.cell? ⟨1, 0, none⟩ = some (.iface te pe)) :
    Calls Tryd.prog 19 #[.string fn, .string s] w fun e w' => ∃ N, e = .returned (.pointer (some ⟨N, 0, none⟩)) ∧ Below w.heap.size w w' := by
  have hG : 1 < w.heap.size := Lib.lt_of_cell hv
  have hvd : w.drew.cell? ⟨1, 0, none⟩ = some (.iface te pe) := hv
  go_enter Tryd.func19, Tryd.ntmps19
  go_wp2
  go_region_with (
      go_at_call 22
      refine (clone s _ hlim).mono ?_
      rintro e w2 ⟨rfl, hbel⟩
      have hv2 : w2.cell? ⟨1, 0, none⟩ = some (.iface te pe) := (hbel.cell (show (⟨1, 0, none⟩ : Addr).block < w.drew.heap.size from hG)).trans hvd)
  all_goals (
    go_wp2
    go_ret
    have hs2 : w.heap.size ≤ w2.heap.size := hbel.size
    exact ⟨_, rfl, ((Below.drew (Below.refl _ w)).trans hbel).alloc hs2 _⟩)

theorem comp39 : (Tryd.prog.info? 39).map (·.comparable) = some true := by kernel_rfl

set_option maxHeartbeats 4000000 in
set_option maxRecDepth 100000 in
/-- strconv.toError at the inner package's second error. -/
theorem toErr2 (fn s : ByteArray) (base bits : Int) (te : TypeId) (pe : Value) (w : World) (hlim : s.size ≤ 281474976710656) (hv : w.cell? ⟨0, 0, none⟩ = some (.iface te pe)) :
    Calls Tryd.prog 15 #[.string fn, .string s, .int .i64 base, .int .i64 bits, .iface 39 (.int .i64 2)] w fun e w' => ∃ N, e = .returned (.iface 43 (.pointer (some ⟨N, 0, none⟩))) ∧ Below w.heap.size w w' := by
  have heq : ∀ W, (binOp .eql 34 (.iface 39 (.int .i64 2)) (.iface 39 (.int .i64 2))).run Tryd.prog W = .ok (.bool true) W := fun W => Lib.run_eql_iface_int W 2 2 Tryd.underlying34 comp39 Tryd.underlying39
  have hE := errS fn s te pe w hlim hv
  go_enter Tryd.func15, Tryd.ntmps15
  go_wp2_with fail
  refine hE.mono ?_
  rintro e w2 ⟨N, rfl, h3⟩
  go_wp2
  go_ret
  exact ⟨N, rfl, h3⟩

set_option maxHeartbeats 4000000 in
set_option maxRecDepth 100000 in
/-- strconv.toError at the inner package's first error. -/
theorem toErr1 (fn s : ByteArray) (base bits : Int) (te : TypeId) (pe : Value) (w : World) (hlim : s.size ≤ 281474976710656) (hv : w.cell? ⟨1, 0, none⟩ = some (.iface te pe)) :
    Calls Tryd.prog 15 #[.string fn, .string s, .int .i64 base, .int .i64 bits, .iface 39 (.int .i64 1)] w fun e w' => ∃ N, e = .returned (.iface 43 (.pointer (some ⟨N, 0, none⟩))) ∧ Below w.heap.size w w' := by
  have hq12 : ∀ W, (binOp .eql 34 (.iface 39 (.int .i64 1)) (.iface 39 (.int .i64 2))).run Tryd.prog W = .ok (.bool false) W := fun W => Lib.run_eql_iface_int W 1 2 Tryd.underlying34 comp39 Tryd.underlying39
  have hq11 : ∀ W, (binOp .eql 34 (.iface 39 (.int .i64 1)) (.iface 39 (.int .i64 1))).run Tryd.prog W = .ok (.bool true) W := fun W => Lib.run_eql_iface_int W 1 1 Tryd.underlying34 comp39 Tryd.underlying39
  have hE := errR fn s te pe w hlim hv
  go_enter Tryd.func15, Tryd.ntmps15
  go_wp2_with fail
  refine hE.mono ?_
  rintro e w2 ⟨N, rfl, h3⟩
  go_wp2
  go_ret
  exact ⟨N, rfl, h3⟩
end Go.Proofs.Qxb6603688aDoor.Walks
