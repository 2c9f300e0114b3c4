/-
  SEAT b6603688aD: the length guard and cloneBytes: contracts over this dump.
-/
import Derived.Test.Qxb6603688aDoorChar
import Derived.Test.Qxb6603688aDoorSpell
import Derived.Laws.OwnMore
import Derived.OwnWalk
import Derived.OneCell
import Derived.WalkSpells
namespace Go.Proofs.Qxb6603688aDoor.Walks
open Go.RowKit Plain
set_option linter.unusedVariables false

/-- The guard lets a row of at most 1 MiB by. -/
theorem guard_yes (ad : Option Addr) (len cap : Nat) (h : len ≤ 1048576) (w : World) :
    Calls Tryd.prog 5 #[.slice ad len cap] w fun e w' => e = .returned (.bool true) ∧ w' = w := by
  go_enter Tryd.func5, Tryd.ntmps5
  go_wp2
  go_ret
  exact ⟨rfl, rfl⟩

theorem guard_no (ad : Option Addr) (len cap : Nat) (h : 1048576 < len) (hm : len ≤ 9223372036854775807) (w : World) :
    Calls Tryd.prog 5 #[.slice ad len cap] w fun e w' => e = .returned (.bool false) ∧ w' = w := by
  go_enter Tryd.func5, Tryd.ntmps5
  go_wp2
  go_ret
  exact ⟨rfl, rfl⟩

/-- cloneBytes of nil is nil. -/
theorem copy_nil (w : World) : Calls Tryd.prog 6 #[.slice none 0 0] w fun e w' => e = .returned (.slice none 0 0) ∧ w' = w := by
  have hq := fun W => Lib.run_eql_slice_nil (P := Tryd.prog) W 22 5 none 0 0 0 0 Tryd.underlying22
  go_enter Tryd.func6, Tryd.ntmps6
  go_wp2
  go_ret
  exact ⟨rfl, rfl⟩

theorem make_full (n : Nat) (hn : n ≤ 1048576) : ∃ M : Array Value, M.size = n ∧
    ∀ W : World, (Instr.makeSlice 22 (.int .i64 (n : Int)) (.int .i64 (n : Int))).run Tryd.prog W = .ok (.slice (some ⟨W.heap.size, 0, none⟩) n n) (W.alloc (.cells M 5)) := by
  obtain ⟨i0, hi, hz0, hz1, hz2⟩ := info_parts info5
  refine ⟨madeCells (Value.int .u8 0).cells ((n : Int).toNat * i0.size), by rw [size_madeCells, hz1]; simp, fun W => ?_⟩
  have h := run_make (P := Tryd.prog) W 22 5 i0 (.int .u8 0) Tryd.underlying22 hi hz0 .i64 .i64 (n : Int) (n : Int) (by omega) (by omega) (by rw [hz2]; omega) (by omega)
  simpa using h

/-- The new row holds the first k numbers. -/
def Part (wr : World) (g n : Nat) (zs : List Int) (k : Nat) : Prop :=
  ∃ arr : Array Value, wr.heap[g]? = some (.cells arr 5 (0, 0)) ∧ arr.size = n ∧ ∀ i, i < k → arr[i]? = some (.int .u8 (zs.getD i 0))

theorem Part.start (w : World) (M : Array Value) (zs : List Int) : Part (w.alloc (.cells M 5)) w.heap.size M.size zs 0 :=
  ⟨M, heap_alloc_new w _, rfl, fun i hi => by omega⟩

theorem Part.slot {wr : World} {g n k : Nat} {zs : List Int} (h : Part wr g n zs k) (i : Nat) (hi : i < n) : ∃ v, wr.cell? ⟨g, i, none⟩ = some v := by
  obtain ⟨arr, hh, hs, _⟩ := h
  exact ⟨arr[i]'(by omega), by rw [cell_of_row wr g i arr 5 (0, 0) hh]; simp [show i < arr.size by omega]⟩

theorem Part.free {wr : World} {g n k : Nat} {zs : List Int} (h : Part wr g n zs k) (i : Nat) : wr.frozen? ⟨g, i, none⟩ = false := by
  obtain ⟨arr, hh, _, _⟩ := h
  exact frozen_of_row wr g i arr 5 hh

theorem Part.cell {wr : World} {g n k : Nat} {zs : List Int} (h : Part wr g n zs k) (i : Nat) (hi : i < k) : wr.cell? ⟨g, i, none⟩ = some (.int .u8 (zs.getD i 0)) := by
  obtain ⟨arr, hh, _, hc⟩ := h
  rw [cell_of_row wr g i arr 5 (0, 0) hh]
  exact hc i hi

theorem Part.store {wr : World} {g n k : Nat} {zs : List Int} (h : Part wr g n zs k) (hk : k < n) {z : Int} (hz : z = zs.getD k 0) : Part (wr.setCell ⟨g, k, none⟩ (.int .u8 z)) g n zs (k + 1) := by
  obtain ⟨arr, hh, hs, hc⟩ := h
  refine ⟨arr.setIfInBounds k (.int .u8 z), heap_setCell_same wr g k arr 5 _ hh, by simpa using hs, fun i hi => ?_⟩
  rw [Array.getElem?_setIfInBounds]
  by_cases e : k = i
  · subst e
    rw [if_pos rfl, if_pos (by omega), hz]
  · rw [if_neg e, hc i (by omega)]

/-- The bytes of a row of numbers. -/
def bytesOf (zs : List Int) (n : Nat) : List UInt8 := (List.range n).map fun j => UInt8.ofNat (zs.getD j 0).toNat

theorem bytesOf_length (zs : List Int) (n : Nat) : (bytesOf zs n).length = n := by simp [bytesOf]

theorem bytesOf_get (zs : List Int) (n j : Nat) (hj : j < n) (hb : 0 ≤ zs.getD j 0 ∧ zs.getD j 0 ≤ 255) : (((bytesOf zs n).getD j 0).toNat : Int) = zs.getD j 0 := by
  have e : (bytesOf zs n).getD j 0 = UInt8.ofNat (zs.getD j 0).toNat := by
    simp [bytesOf, List.getElem?_range hj]
  rw [e]
  have h : (zs.getD j 0).toNat < 256 := by omega
  rw [toNat_small h]
  omega

theorem Part.row {wr : World} {g n : Nat} {zs : List Int} (h : Part wr g n zs n) (hn : n ≤ 1048576) (hb : ∀ j, j < n → 0 ≤ zs.getD j 0 ∧ zs.getD j 0 ≤ 255) : Row wr (.slice (some ⟨g, 0, none⟩) n n) (bytesOf zs n) := by
  refine ⟨_, n, by rw [bytesOf_length], by rw [bytesOf_length]; exact Nat.le_refl _, by omega, fun _ => ⟨g, rfl, fun j hj => ?_⟩⟩
  rw [bytesOf_length] at hj
  rw [bytesOf_get zs n j hj (hb j hj)]
  exact h.cell j hj

set_option maxHeartbeats 4000000 in
/-- cloneBytes of a row that is not nil and not empty. -/
theorem copy_some (b off len cap : Nat) (zs : List Int) (h0 : 0 < len) (hlen : len ≤ 1048576) (hb : ∀ j, j < len → 0 ≤ zs.getD j 0 ∧ zs.getD j 0 ≤ 255) (w : World)
    (hc : ∀ j, j < len → w.cell? ⟨b, off + j, none⟩ = some (.int .u8 (zs.getD j 0))) :
    Calls Tryd.prog 6 #[.slice (some ⟨b, off, none⟩) len cap] w fun e w' => ∃ v, e = .returned v ∧ Row w' v (bytesOf zs len) ∧ Below w.heap.size w w' := by
  have hq := fun W => Lib.run_eql_slice_nil (P := Tryd.prog) W 22 5 (some ⟨b, off, none⟩) len cap 0 0 Tryd.underlying22
  obtain ⟨M, hM, hmk⟩ := make_full len hlen
  have P0 := Part.start w M zs
  rw [hM] at P0
  have B0 : Below w.heap.size w (w.alloc (.cells M 5)) := (Below.refl _ _).alloc (Nat.le_refl _) _
  have hbw : b < w.heap.size := by have := hc 0 h0; exact Lib.lt_of_cell this
  go_enter Tryd.func6, Tryd.ntmps6
  go_wp2
  go_loopw [4] (fun i wr => ∃ k : Nat, k ≤ len ∧ i = .int .i64 (k : Int) ∧ Part wr w.heap.size len zs k ∧ Below w.heap.size w wr)
    (fun i _ => len - (intOf i).toNat)
  case atStart => exact ⟨0, by omega, rfl, P0, B0⟩
  case round =>
    obtain ⟨k, hk, rfl, hP, hB⟩ := hrel
    clear P0 B0
    by_cases hkn : k < len
    · have hck : wr.cell? ⟨b, off + k, none⟩ = some (.int .u8 (zs.getD k 0)) := (hB.cell (p := ⟨b, off + k, none⟩) hbw).trans (hc k hkn)
      obtain ⟨o0, ho0⟩ := hP.slot k hkn
      have hfz := hP.free k
      have hP' := fun z (hz : z = zs.getD k 0) => hP.store hkn (z := z) hz
      have hB' := fun z => hB.setCell (p := ⟨w.heap.size, k, none⟩) (Nat.le_refl _) (.int .u8 z)
      obtain ⟨z, hz⟩ : ∃ z, Hid (z = zs.getD k 0) := ⟨_, rfl⟩
      have hP1 := hP' z hz.out
      have hB1 := hB' z
      rw [← hz.out] at hck
      clear hP' hB' hP hB hc hM
      go_wp2
      go_roundw
      case rel => exact ⟨k + 1, by omega, by go_num, hP1, hB1⟩
      case measure => simp [intOf]; omega
    · have hP1 : Part wr w.heap.size len zs len := by rw [show len = k from by omega] at hP ⊢; exact hP
      clear hP hc hM
      go_wp2
      go_ret
      exact ⟨_, rfl, hP1.row hlen hb, hB⟩

set_option maxHeartbeats 4000000 in
/-- cloneBytes of an empty row that is not nil. -/
theorem copy_empty (a : Addr) (cap : Nat) (zs : List Int) (w : World) :
    Calls Tryd.prog 6 #[.slice (some a) 0 cap] w fun e w' => ∃ v, e = .returned v ∧ Row w' v (bytesOf zs 0) ∧ Below w.heap.size w w' := by
  have hq := fun W => Lib.run_eql_slice_nil (P := Tryd.prog) W 22 5 (some a) 0 cap 0 0 Tryd.underlying22
  obtain ⟨M, hM, hmk⟩ := make_full 0 (by omega)
  have hmk : ∀ W : World, (Instr.makeSlice 22 (.int .i64 0) (.int .i64 0)).run Tryd.prog W = .ok (.slice (some ⟨W.heap.size, 0, none⟩) 0 0) (W.alloc (.cells M 5)) := hmk
  go_enter Tryd.func6, Tryd.ntmps6
  go_wp2
  refine wp_loop_rounds 1 ?_
  rw [rounds_succ]
  go_wp2
  go_ret
  exact ⟨_, rfl, ⟨_, 0, rfl, by simp [bytesOf], by omega, fun h => by simp [bytesOf] at h⟩, (Below.refl _ _).alloc (Nat.le_refl _) _⟩
end Go.Proofs.Qxb6603688aDoor.Walks
