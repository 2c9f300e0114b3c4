/-
  SEAT b6603688aD: FnCharRefReadsBackItsEncoding: the walk.
-/
import Derived.Test.Qxb6603688aDoorChar
import Derived.Test.Qxb6603688aDoorXml
import Derived.Test.Qxb6603688aDoorSpell
import Derived.Laws.OwnMore
import Derived.OwnWalk
import Derived.Below
import Derived.OneCell
import Derived.WalkSpells
import Derived.Handy

namespace Go.Proofs.Qxb6603688aDoor.Back
open Go.RowKit Plain Walks
set_option linter.unusedVariables false

theorem make_at (p : Nat) (hp : p ≤ 255) (w : World) : ∃ M : Array Value, M.size = p + 12 ∧
    ∀ W : World, (Instr.makeSlice 22 (.int .i64 0) (.int .i64 (2 + (p : Int) + 10))).run Tryd.prog W = .ok (.slice (some ⟨W.heap.size, 0, none⟩) 0 (p + 12)) (W.alloc (.cells M 5)) := by
  obtain ⟨i0, hi, hz0, hz1, hz2⟩ := info_parts info5
  refine ⟨madeCells (Value.int .u8 0).cells ((2 + (p : Int) + 10).toNat * i0.size), ?_, fun W => ?_⟩
  · rw [size_madeCells, hz1]; omega
  · have h := run_make (P := Tryd.prog) W 22 5 i0 (.int .u8 0) Tryd.underlying22 hi hz0 .i64 .i64 0 (2 + (p : Int) + 10) (by omega) (by omega) (by rw [hz2]; omega) (by omega)
    have e : (2 + (p : Int) + 10).toNat = p + 12 := by omega
    rw [e] at h ⊢
    simpa using h

/-- The row that the call builds holds the bytes l; of what was there nothing has turned. -/
structure Ref (w wr : World) (g C : Nat) (l : List UInt8) : Prop where
  own : wr.ownsRow g 5 1 (.slice (some ⟨g, 0, none⟩) l.length C) l.length (Lib.byteCells l)
  low : Below g w wr
  le : g < wr.heap.size

theorem Ref.start (w : World) (M : Array Value) (C : Nat) (hC : C ≤ 1000) (hM : M.size = C) : Ref w (w.alloc (.cells M 5)) w.heap.size C [] :=
  ⟨World.ownsRow_made w M C (Nat.le_refl _) (by unfold maxLen; omega) (by omega), (Below.refl _ _).alloc (Nat.le_refl _) _, by simp⟩

theorem Ref.step {w wr w1 : World} {g C : Nat} {l : List UInt8} (h : Ref w wr g C l) (o : Obj) {x : Int} (c : UInt8) (hx : x = (c.toNat : Int))
    (hown : w1.ownsRow g 5 1 (.slice (some ⟨g, 0, none⟩) (l.length + 1) C) (l.length + 1) (Lib.byteCells l ++ [.int .u8 x])) (hg : (wr.alloc o).grownBy w1 (some g)) : Ref w w1 g C (l ++ [c]) := by
  have e1 : (l ++ [c]).length = l.length + 1 := by simp
  have e2 : Lib.byteCells (l ++ [c]) = Lib.byteCells l ++ [.int .u8 x] := by rw [hx]; simp [Lib.byteCells]
  refine ⟨by rw [e1, e2]; exact hown, ?_, ?_⟩
  · exact (h.low.alloc (Nat.le_of_lt h.le) o).grown hg (by have := h.le; simp; omega) (fun k hk => by cases hk; exact Nat.le_refl _)
  · have := hg.size; have := h.le; simp at *; omega

theorem Ref.alloc {w wr : World} {g C : Nat} {l : List UInt8} (h : Ref w wr g C l) (o : Obj) : Ref w (wr.alloc o) g C l :=
  ⟨h.own.alloc o, h.low.alloc (Nat.le_of_lt h.le) o, by have := h.le; simp; omega⟩

theorem Ref.setCell {w wr : World} {g C D j : Nat} {l : List UInt8} (h : Ref w wr g C l) (hD : g < D) (x : Value) : Ref w (wr.setCell ⟨D, j, none⟩ x) g C l :=
  ⟨ownsRow_setCell_other h.own (by simp [Value.ownBlock]; omega) x, h.low.setCell (Nat.le_of_lt hD) x, by have := h.le; simpa using this⟩

/-- The array of ten bytes holds the digits E so far. -/
def Arr (wr : World) (D : Nat) (E : List UInt8) : Prop :=
  ∃ arr : Array Value, wr.heap[D]? = some (.cells arr 28 (0, 0)) ∧ arr.size = 10 ∧ ∀ i, i < E.length → arr[i]? = some (.int .u8 ((E.getD i 0).toNat : Int))

theorem Arr.start (wr : World) : Arr (wr.alloc (.cells #[.int .u8 0, .int .u8 0, .int .u8 0, .int .u8 0, .int .u8 0, .int .u8 0, .int .u8 0, .int .u8 0, .int .u8 0, .int .u8 0] 28)) wr.heap.size [] :=
  ⟨_, heap_alloc_new wr _, rfl, fun i hi => by simp at hi⟩

theorem Arr.slot {wr : World} {D : Nat} {E : List UInt8} (h : Arr wr D E) (i : Nat) (hi : i < 10) : ∃ v, wr.cell? ⟨D, i, none⟩ = some v := by
  obtain ⟨arr, hh, hs, _⟩ := h
  exact ⟨arr[i]'(by omega), by rw [cell_of_row wr D i arr 28 (0, 0) hh]; simp [show i < arr.size by omega]⟩

theorem Arr.free {wr : World} {D : Nat} {E : List UInt8} (h : Arr wr D E) (i : Nat) : wr.frozen? ⟨D, i, none⟩ = false := by
  obtain ⟨arr, hh, _, _⟩ := h
  exact frozen_of_row wr D i arr 28 hh

theorem Arr.cell {wr : World} {D : Nat} {E : List UInt8} (h : Arr wr D E) (i : Nat) (hi : i < E.length) : wr.cell? ⟨D, i, none⟩ = some (.int .u8 ((E.getD i 0).toNat : Int)) := by
  obtain ⟨arr, hh, _, hc⟩ := h
  rw [cell_of_row wr D i arr 28 (0, 0) hh]
  exact hc i hi

theorem Arr.store {wr : World} {D : Nat} {E : List UInt8} (h : Arr wr D E) (hE : E.length < 10) {x : Int} (c : UInt8) (hx : x = (c.toNat : Int)) : Arr (wr.setCell ⟨D, E.length, none⟩ (.int .u8 x)) D (E ++ [c]) := by
  obtain ⟨arr, hh, hs, hc⟩ := h
  refine ⟨arr.setIfInBounds E.length (.int .u8 x), heap_setCell_same wr D E.length arr 28 _ hh, by simpa using hs, fun i hi => ?_⟩
  rw [Array.getElem?_setIfInBounds]
  by_cases e : E.length = i
  · subst e
    rw [if_pos rfl, if_pos (by omega), hx]
    simp
  · rw [if_neg e, hc i (by simp at hi; omega)]
    have : i < E.length := by simp at hi; omega
    simp [List.getElem?_append_left this]

theorem Arr.kept {wr w1 : World} {D g : Nat} {E : List UInt8} (h : Arr wr D E) (hD : g < D) (o : Obj) (hg : (wr.alloc o).grownBy w1 (some g)) : Arr w1 D E := by
  obtain ⟨arr, hh, hs, hc⟩ := h
  have hlt : D < wr.heap.size := lt_of_block hh
  refine ⟨arr, ?_, hs, hc⟩
  rw [hg.block D (by simp; omega) (by simp; omega), Below.heap_alloc _ _ _ hlt]
  exact hh

theorem Ref.row {w wr : World} {g C : Nat} {l : List UInt8} (h : Ref w wr g C l) (hC : C ≤ 1000) (hl : l.length ≤ C) : Row wr (.slice (some ⟨g, 0, none⟩) l.length C) l :=
  ⟨_, C, rfl, hl, by omega, fun _ => ⟨g, rfl, fun j hj => by
    rw [h.own.cellAt j (by omega)]
    simp [Lib.byteCells, List.getElem?_eq_getElem hj]⟩⟩

theorem cell_new_at (w : World) (b : Nat) (hb : b = w.heap.size) (x : Value) (t : TypeId) : ∀ j u, [x][j]? = some u → (w.alloc (.cells #[x] t)).cell? ((⟨b, 0, none⟩ : Addr).add j) = some u := by
  subst hb
  exact cell_one_new w x t

theorem oneU8 (x : Int) : ∀ u ∈ [Value.int .u8 x], u.oneCell' = true := by intro u hu; simp at hu; subst hu; rfl

set_option maxHeartbeats 4000000 in
set_option maxRecDepth 100000 in
theorem dec (vN p : Nat) (hv : vN ≤ 4294967295) (hp : p ≤ 255) (up : Bool) (w : World) (hS : Sent w) :
    Calls Tryd.prog 4 #[.int .u32 (vN : Int), .int .u8 (p : Int), .bool false, .bool up] w fun e w' => e = .returned (.bool true) ∧ Below w.heap.size w w' := by
  obtain ⟨i0, hi, hz0, hz1, hz2⟩ := info_parts info5
  obtain ⟨M, hM, hmk⟩ := make_at p hp w
  have R0 : Ref w (w.alloc (.cells M 5)) w.heap.size (p + 12) [] := Ref.start w M _ (by omega) hM
  go_enter Tryd.func4, Tryd.ntmps4
  go_wp2_with (at_builtin; refine Hid.out ?_)
  refine Lib.hid ?_
  refine wpList_append_fits _ rfl _ _ 22 rfl w.heap.size 5 i0 1 Tryd.underlying22 hi hz1 w.heap.size 0 (p + 12) [] rfl (R0.own.alloc _) ⟨w.heap.size + 1, 0, none⟩ 1 1 [.int .u8 35] rfl rfl (cell_new_at _ _ (by simp) _ _) (oneU8 _) (by omega) ?_
  intro w1 hown1 hg1
  have R1 : Ref w w1 w.heap.size (p + 12) [35] := R0.step _ 35 rfl hown1 hg1
  clear hown1 hg1 R0 hmk
  go_wp2
  go_loopw [10, 11] (fun v i wr => ∃ (k : Nat) (l : List UInt8), k ≤ p ∧ i = .int .i64 k ∧ v = .slice (some ⟨w.heap.size, 0, none⟩) l.length (p + 12) ∧ Hid (l = [35] ++ List.replicate k 48) ∧ Ref w wr w.heap.size (p + 12) l)
    (fun _ i _ => p - (intOf i).toNat)
  case atStart => exact ⟨0, [35], by omega, rfl, rfl, rfl, R1⟩
  case round =>
    obtain ⟨k, l, hk, rfl, rfl, hl, R⟩ := hrel
    have hll : l.length ≤ 1 + k := by rw [hl.out]; simp; omega
    clear R1
    by_cases hkp : k < p
    · go_wp2_with (at_builtin; refine Hid.out ?_)
      refine Lib.hid ?_
      refine wpList_append_fits _ rfl _ _ 22 rfl w.heap.size 5 i0 1 Tryd.underlying22 hi hz1 w.heap.size l.length (p + 12) (Lib.byteCells l) rfl (R.own.alloc _) ⟨wr.heap.size, 0, none⟩ 1 1 [.int .u8 48] rfl rfl (cell_new_at _ _ (by simp) _ _) (oneU8 _) (by omega) ?_
      intro w1 hown1 hg1
      have R' : Ref w w1 w.heap.size (p + 12) (l ++ [48]) := R.step _ 48 rfl hown1 hg1
      have hl' : Hid (l ++ [48] = [35] ++ List.replicate (k + 1) 48) := by rw [hl.out, List.replicate_succ']; exact Lib.hid (by simp)
      clear hown1 hg1 R
      go_wp2
      go_roundw
      case rel => exact ⟨k + 1, l ++ [48], by omega, by go_num, by simp, hl', R'⟩
      case measure => simp [intOf]; omega
    · have hl0 : Hid (l = [35] ++ List.replicate p 48) := by rw [show p = k from by omega]; exact hl
      go_wp2
      have hA0 := Arr.start wr
      have R0 := R.alloc (.cells #[.int .u8 0, .int .u8 0, .int .u8 0, .int .u8 0, .int .u8 0, .int .u8 0, .int .u8 0, .int .u8 0, .int .u8 0, .int .u8 0] 28)
      have hDg := R.le
      generalize wr.heap.size = D at *
      have hlp : l.length ≤ 2 + p := by omega
      clear hl R hk hkp hll
      go_loopw [14, 15] (fun n x wx => ∃ (E : List UInt8) (xN : Nat), n = .int .i64 (E.length : Int) ∧ x = .int .u32 (xN : Int) ∧ E.length ≤ 9 ∧ xN ≤ 4294967295 ∧ Hid (xN < 10 ^ (10 - E.length) ∧ run false xN E.reverse = some vN) ∧ Arr wx D E ∧ Ref w wx w.heap.size (p + 12) l)
        (fun n _ _ => 10 - (intOf n).toNat)
      case atStart => exact ⟨[], vN, rfl, rfl, by simp, hv, ⟨Nat.lt_of_le_of_lt hv (by decide), rfl⟩, hA0, R0⟩
      case round =>
        obtain ⟨E, xN, rfl, rfl, hE, hx, HX, hA, R⟩ := hrel
        clear hA0 R0
        obtain ⟨o0, ho0⟩ := hA.slot E.length (by omega)
        have hfz := hA.free E.length
        have hd16 : decide ((10 : Int) ≤ (xN : Int) % 10) = false := by simp; omega
        have hcN : (UInt8.ofNat (48 + xN % 10)).toNat = 48 + xN % 10 := toNat_small (by omega)
        have HD : Hid (dig false (UInt8.ofNat (48 + xN % 10)).toNat = some (xN % 10)) := by rw [hcN]; exact Lib.hid (dig_low (by omega))
        have HC : Hid (48 + (xN : Int) % 10 = ((UInt8.ofNat (48 + xN % 10)).toNat : Int)) := by rw [hcN]; exact Lib.hid (by omega)
        clear hcN
        generalize UInt8.ofNat (48 + xN % 10) = c at HD HC
        have hA' := hA.store (by omega) c HC.out
        have R' := R.setCell (j := E.length) hDg (.int .u8 (48 + (xN : Int) % 10))
        have HX1 := pow_step HX.out.1 hE
        have HX2 := spell_step (B := 10) rfl HD.out HX.out.2
        have HX' : Hid (xN / 10 < 10 ^ (10 - (E.length + 1)) ∧ run false (xN / 10) (E ++ [c]).reverse = some vN) := Lib.hid ⟨HX1, HX2⟩
        clear HX1 HX2 HD HX hA R
        by_cases hq : xN < 10
        · have hr0 : Hid (run false 0 (E ++ [c]).reverse = some vN) := by have := HX'.out.2; rw [Nat.div_eq_of_lt hq] at this; exact Lib.hid this
          have hq0 : (((xN : Nat) : Int) / 10 == 0) = true := by simp; omega
          clear HX'
          go_wp2
          clear hfz ho0 hq hq0 HC hd16
          generalize wr.setCell ⟨D, E.length, none⟩ (.int .u8 (48 + (xN : Int) % 10)) = wz at hA' R' ⊢
          have hE1 : (E ++ [c]).length = E.length + 1 := by simp
          have hE2 : ((E.length : Int) + 1) = (((E ++ [c]).length : Nat) : Int) := by rw [hE1]; omega
          rw [hE2]
          have hE3 : 0 < (E ++ [c]).length ∧ (E ++ [c]).length ≤ 10 := by omega
          clear hE1 hE2 hE
          generalize E ++ [c] = F at hA' hr0 hE3 ⊢
          go_loopw [10, 14] (fun v n wx => ∃ (m : Nat) (l2 : List UInt8), m ≤ F.length ∧ n = .int .i64 (m : Int) ∧ v = .slice (some ⟨w.heap.size, 0, none⟩) l2.length (p + 12) ∧ Hid (l2 = l ++ (F.drop m).reverse) ∧ Arr wx D F ∧ Ref w wx w.heap.size (p + 12) l2)
            (fun _ n _ => (intOf n).toNat)
          case atStart => exact ⟨F.length, l, Nat.le_refl _, rfl, rfl, Lib.hid (by simp), hA', R'⟩
          case round =>
            obtain ⟨m, l2, hm, rfl, rfl, hl2, hA2, R2⟩ := hrel
            clear hA' R'
            have hl2n : l2.length ≤ 2 + p + (F.length - m) := by rw [hl2.out, List.length_append, List.length_reverse, List.length_drop]; omega
            cases m with
            | succ m =>
              have hcell := hA2.cell m (by omega)
              go_wp2_with (at_builtin; refine Hid.out ?_)
              refine Lib.hid ?_
              refine wpList_append_fits _ rfl _ _ 22 rfl w.heap.size 5 i0 1 Tryd.underlying22 hi hz1 w.heap.size l2.length (p + 12) (Lib.byteCells l2) rfl (R2.own.alloc _) ⟨wr.heap.size, 0, none⟩ 1 1 [.int .u8 ((F.getD m 0).toNat : Int)] rfl rfl (cell_new_at _ _ (by simp) _ _) (oneU8 _) (by omega) ?_
              intro w1 hown1 hg1
              have R3 := R2.step _ (F.getD m 0) rfl hown1 hg1
              have hA3 := hA2.kept hDg _ hg1
              have hl3 : Hid (l2 ++ [F.getD m 0] = l ++ (F.drop m).reverse) := by rw [hl2.out, drop_reverse (show m < F.length by omega)]; exact Lib.hid (by simp)
              clear hown1 hg1 hcell R2 hA2
              go_wp2
              go_roundw
              case rel => exact ⟨m, l2 ++ [F.getD m 0], by omega, by go_num, by simp, hl3, hA3, R3⟩
              case measure => simp [intOf]
            | zero =>
              have hL : refOf l2 = if xml vN then some vN else none := by rw [hl2.out, hl0.out, List.drop_zero]; exact back_dec hE3.1 hr0.out
              have hZ := zzCharRef _ l2 wr (hS.on R2.low) (R2.row (by omega) (by omega))
              rw [hL] at hZ
              have hlow := R2.low
              have hle := R2.le
              clear hL hl2 hl0 hr0 hA2 R2 hl2n hlp
              cases hx : xml vN with
              | true =>
                rw [hx] at hZ
                have hX := xml_yes hx
                have hv' : vN ≤ 1114111 := xml_le hx
                have hZ' : Calls Tryd.prog 7 #[.slice (some ⟨w.heap.size, 0, none⟩) l2.length (p + 12)] wr fun e w' => e = .returned (.tuple #[.int .i32 (vN : Int), .bool true]) ∧ Below wr.heap.size wr w' := hZ
                clear hZ hx
                go_wp2_with fail
                refine hZ'.mono ?_
                rintro e wv ⟨rfl, hbv⟩
                clear hZ'
                go_wp2_with (go_at_call 9; refine (code_yes _ _ hX).mono ?_; rintro e w' ⟨rfl, rfl⟩)
                go_ret
                exact ⟨rfl, hlow.trans (hbv.mono (by omega))⟩
              | false =>
                rw [hx] at hZ
                have hX := xml_no hx
                have hZ' : Calls Tryd.prog 7 #[.slice (some ⟨w.heap.size, 0, none⟩) l2.length (p + 12)] wr fun e w' => e = .returned (.tuple #[.int .i32 0, .bool false]) ∧ Below wr.heap.size wr w' := hZ
                clear hZ hx
                go_wp2_with fail
                refine hZ'.mono ?_
                rintro e wv ⟨rfl, hbv⟩
                clear hZ'
                go_wp2_with (go_at_call 9; refine (code_no _ _ hX).mono ?_; rintro e w' ⟨rfl, rfl⟩)
                go_ret
                exact ⟨rfl, hlow.trans (hbv.mono (by omega))⟩
        · have hq0 : (((xN : Nat) : Int) / 10 == 0) = false := by simp; omega
          have h9 : E.length + 1 ≤ 9 := pow_end HX'.out.1 (by omega)
          go_wp2
          go_roundw
          case rel => exact ⟨E ++ [c], xN / 10, by simp, by simp, by simp; omega, by omega, by rw [show (E ++ [c]).length = E.length + 1 from by simp]; exact HX', hA', R'⟩
          case measure => simp [intOf]; omega

set_option maxHeartbeats 4000000 in
set_option maxRecDepth 100000 in
theorem hex (vN p : Nat) (hv : vN ≤ 4294967295) (hp : p ≤ 255) (up : Bool) (w : World) (hS : Sent w) :
    Calls Tryd.prog 4 #[.int .u32 (vN : Int), .int .u8 (p : Int), .bool true, .bool up] w fun e w' => e = .returned (.bool true) ∧ Below w.heap.size w w' := by
  obtain ⟨i0, hi, hz0, hz1, hz2⟩ := info_parts info5
  obtain ⟨M, hM, hmk⟩ := make_at p hp w
  have R0 : Ref w (w.alloc (.cells M 5)) w.heap.size (p + 12) [] := Ref.start w M _ (by omega) hM
  go_enter Tryd.func4, Tryd.ntmps4
  go_wp2_with (at_builtin; refine Hid.out ?_)
  refine Lib.hid ?_
  refine wpList_append_fits _ rfl _ _ 22 rfl w.heap.size 5 i0 1 Tryd.underlying22 hi hz1 w.heap.size 0 (p + 12) [] rfl (R0.own.alloc _) ⟨w.heap.size + 1, 0, none⟩ 1 1 [.int .u8 35] rfl rfl (cell_new_at _ _ (by simp) _ _) (oneU8 _) (by omega) ?_
  intro w1 hown1 hg1
  have R1 : Ref w w1 w.heap.size (p + 12) [35] := R0.step _ 35 rfl hown1 hg1
  clear hown1 hg1 R0 hmk
  go_wp2_with (at_builtin; refine Hid.out ?_)
  refine Lib.hid ?_
  refine wpList_append_fits _ rfl _ _ 22 rfl w.heap.size 5 i0 1 Tryd.underlying22 hi hz1 w.heap.size 1 (p + 12) [.int .u8 35] rfl (R1.own.alloc _) ⟨w1.heap.size, 0, none⟩ 1 1 [.int .u8 120] rfl rfl (cell_new_at _ _ (by simp) _ _) (oneU8 _) (by omega) ?_
  intro w2 hown2 hg2
  have R2 : Ref w w2 w.heap.size (p + 12) [35, 120] := R1.step _ 120 rfl hown2 hg2
  clear hown2 hg2 R1
  go_wp2
  go_loopw [10, 11] (fun v i wr => ∃ (k : Nat) (l : List UInt8), k ≤ p ∧ i = .int .i64 k ∧ v = .slice (some ⟨w.heap.size, 0, none⟩) l.length (p + 12) ∧ Hid (l = [35, 120] ++ List.replicate k 48) ∧ Ref w wr w.heap.size (p + 12) l)
    (fun _ i _ => p - (intOf i).toNat)
  case atStart => exact ⟨0, [35, 120], by omega, rfl, rfl, rfl, R2⟩
  case round =>
    obtain ⟨k, l, hk, rfl, rfl, hl, R⟩ := hrel
    have hll : l.length ≤ 2 + k := by rw [hl.out]; simp; omega
    clear R2
    by_cases hkp : k < p
    · go_wp2_with (at_builtin; refine Hid.out ?_)
      refine Lib.hid ?_
      refine wpList_append_fits _ rfl _ _ 22 rfl w.heap.size 5 i0 1 Tryd.underlying22 hi hz1 w.heap.size l.length (p + 12) (Lib.byteCells l) rfl (R.own.alloc _) ⟨wr.heap.size, 0, none⟩ 1 1 [.int .u8 48] rfl rfl (cell_new_at _ _ (by simp) _ _) (oneU8 _) (by omega) ?_
      intro w1 hown1 hg1
      have R' : Ref w w1 w.heap.size (p + 12) (l ++ [48]) := R.step _ 48 rfl hown1 hg1
      have hl' : Hid (l ++ [48] = [35, 120] ++ List.replicate (k + 1) 48) := by rw [hl.out, List.replicate_succ']; exact Lib.hid (by simp)
      clear hown1 hg1 R
      go_wp2
      go_roundw
      case rel => exact ⟨k + 1, l ++ [48], by omega, by go_num, by simp, hl', R'⟩
      case measure => simp [intOf]; omega
    · have hl0 : Hid (l = [35, 120] ++ List.replicate p 48) := by rw [show p = k from by omega]; exact hl
      go_wp2
      have hA0 := Arr.start wr
      have R0 := R.alloc (.cells #[.int .u8 0, .int .u8 0, .int .u8 0, .int .u8 0, .int .u8 0, .int .u8 0, .int .u8 0, .int .u8 0, .int .u8 0, .int .u8 0] 28)
      have hDg := R.le
      generalize wr.heap.size = D at *
      have hlp : l.length ≤ 2 + p := by omega
      clear hl R hk hkp hll
      go_loopw [14, 15] (fun n x wx => ∃ (E : List UInt8) (xN : Nat), n = .int .i64 (E.length : Int) ∧ x = .int .u32 (xN : Int) ∧ E.length ≤ 9 ∧ xN ≤ 4294967295 ∧ Hid (xN < 16 ^ (10 - E.length) ∧ run true xN E.reverse = some vN) ∧ Arr wx D E ∧ Ref w wx w.heap.size (p + 12) l)
        (fun n _ _ => 10 - (intOf n).toNat)
      case atStart => exact ⟨[], vN, rfl, rfl, by simp, hv, ⟨Nat.lt_of_le_of_lt hv (by decide), rfl⟩, hA0, R0⟩
      case round =>
        obtain ⟨E, xN, rfl, rfl, hE, hx, HX, hA, R⟩ := hrel
        clear hA0 R0
        obtain ⟨o0, ho0⟩ := hA.slot E.length (by omega)
        have hfz := hA.free E.length
        by_cases hd : xN % 16 < 10
        · -- a decimal digit
          have hd16 : decide ((10 : Int) ≤ (xN : Int) % 16) = false := by simp; omega
          have hcN : (UInt8.ofNat (48 + xN % 16)).toNat = 48 + xN % 16 := toNat_small (by omega)
          have HD : Hid (dig true (UInt8.ofNat (48 + xN % 16)).toNat = some (xN % 16)) := by rw [hcN]; exact Lib.hid (dig_low (by omega))
          have HC : Hid (48 + (xN : Int) % 16 = ((UInt8.ofNat (48 + xN % 16)).toNat : Int)) := by rw [hcN]; exact Lib.hid (by omega)
          clear hcN
          generalize UInt8.ofNat (48 + xN % 16) = c at HD HC
          have hA' := hA.store (by omega) c HC.out
          have R' := R.setCell (j := E.length) hDg (.int .u8 (48 + (xN : Int) % 16))
          have HX1 := pow_step HX.out.1 hE
          have HX2 := spell_step (B := 16) rfl HD.out HX.out.2
          have HX' : Hid (xN / 16 < 16 ^ (10 - (E.length + 1)) ∧ run true (xN / 16) (E ++ [c]).reverse = some vN) := Lib.hid ⟨HX1, HX2⟩
          clear HX1 HX2 HD HX hA R
          by_cases hq : xN < 16
          · have hr0 : Hid (run true 0 (E ++ [c]).reverse = some vN) := by have := HX'.out.2; rw [Nat.div_eq_of_lt hq] at this; exact Lib.hid this
            have hq0 : (((xN : Nat) : Int) / 16 == 0) = true := by simp; omega
            clear HX'
            go_wp2
            clear hfz ho0 hq hq0 HC hd16 hd
            generalize wr.setCell ⟨D, E.length, none⟩ (.int .u8 (48 + (xN : Int) % 16)) = wz at hA' R' ⊢
            have hE1 : (E ++ [c]).length = E.length + 1 := by simp
            have hE2 : ((E.length : Int) + 1) = (((E ++ [c]).length : Nat) : Int) := by rw [hE1]; omega
            rw [hE2]
            have hE3 : 0 < (E ++ [c]).length ∧ (E ++ [c]).length ≤ 10 := by omega
            clear hE1 hE2 hE
            generalize E ++ [c] = F at hA' hr0 hE3 ⊢
            go_loopw [10, 14] (fun v n wx => ∃ (m : Nat) (l2 : List UInt8), m ≤ F.length ∧ n = .int .i64 (m : Int) ∧ v = .slice (some ⟨w.heap.size, 0, none⟩) l2.length (p + 12) ∧ Hid (l2 = l ++ (F.drop m).reverse) ∧ Arr wx D F ∧ Ref w wx w.heap.size (p + 12) l2)
              (fun _ n _ => (intOf n).toNat)
            case atStart => exact ⟨F.length, l, Nat.le_refl _, rfl, rfl, Lib.hid (by simp), hA', R'⟩
            case round =>
              obtain ⟨m, l2, hm, rfl, rfl, hl2, hA2, R2⟩ := hrel
              clear hA' R'
              have hl2n : l2.length ≤ 2 + p + (F.length - m) := by rw [hl2.out, List.length_append, List.length_reverse, List.length_drop]; omega
              cases m with
              | succ m =>
                have hcell := hA2.cell m (by omega)
                go_wp2_with (at_builtin; refine Hid.out ?_)
                refine Lib.hid ?_
                refine wpList_append_fits _ rfl _ _ 22 rfl w.heap.size 5 i0 1 Tryd.underlying22 hi hz1 w.heap.size l2.length (p + 12) (Lib.byteCells l2) rfl (R2.own.alloc _) ⟨wr.heap.size, 0, none⟩ 1 1 [.int .u8 ((F.getD m 0).toNat : Int)] rfl rfl (cell_new_at _ _ (by simp) _ _) (oneU8 _) (by omega) ?_
                intro w1 hown1 hg1
                have R3 := R2.step _ (F.getD m 0) rfl hown1 hg1
                have hA3 := hA2.kept hDg _ hg1
                have hl3 : Hid (l2 ++ [F.getD m 0] = l ++ (F.drop m).reverse) := by rw [hl2.out, drop_reverse (show m < F.length by omega)]; exact Lib.hid (by simp)
                clear hown1 hg1 hcell R2 hA2
                go_wp2
                go_roundw
                case rel => exact ⟨m, l2 ++ [F.getD m 0], by omega, by go_num, by simp, hl3, hA3, R3⟩
                case measure => simp [intOf]
              | zero =>
                have hL : refOf l2 = if xml vN then some vN else none := by rw [hl2.out, hl0.out, List.drop_zero]; exact back_hex hE3.1 hr0.out
                have hZ := zzCharRef _ l2 wr (hS.on R2.low) (R2.row (by omega) (by omega))
                rw [hL] at hZ
                have hlow := R2.low
                have hle := R2.le
                clear hL hl2 hl0 hr0 hA2 R2 hl2n hlp
                cases hx : xml vN with
                | true =>
                  rw [hx] at hZ
                  have hX := xml_yes hx
                  have hv' : vN ≤ 1114111 := xml_le hx
                  have hZ' : Calls Tryd.prog 7 #[.slice (some ⟨w.heap.size, 0, none⟩) l2.length (p + 12)] wr fun e w' => e = .returned (.tuple #[.int .i32 (vN : Int), .bool true]) ∧ Below wr.heap.size wr w' := hZ
                  clear hZ hx
                  go_wp2_with fail
                  refine hZ'.mono ?_
                  rintro e wv ⟨rfl, hbv⟩
                  clear hZ'
                  go_wp2_with (go_at_call 9; refine (code_yes _ _ hX).mono ?_; rintro e w' ⟨rfl, rfl⟩)
                  go_ret
                  exact ⟨rfl, hlow.trans (hbv.mono (by omega))⟩
                | false =>
                  rw [hx] at hZ
                  have hX := xml_no hx
                  have hZ' : Calls Tryd.prog 7 #[.slice (some ⟨w.heap.size, 0, none⟩) l2.length (p + 12)] wr fun e w' => e = .returned (.tuple #[.int .i32 0, .bool false]) ∧ Below wr.heap.size wr w' := hZ
                  clear hZ hx
                  go_wp2_with fail
                  refine hZ'.mono ?_
                  rintro e wv ⟨rfl, hbv⟩
                  clear hZ'
                  go_wp2_with (go_at_call 9; refine (code_no _ _ hX).mono ?_; rintro e w' ⟨rfl, rfl⟩)
                  go_ret
                  exact ⟨rfl, hlow.trans (hbv.mono (by omega))⟩
          · have hq0 : (((xN : Nat) : Int) / 16 == 0) = false := by simp; omega
            have h9 : E.length + 1 ≤ 9 := pow_end HX'.out.1 (by omega)
            go_wp2
            go_roundw
            case rel => exact ⟨E ++ [c], xN / 16, by simp, by simp, by simp; omega, by omega, by rw [show (E ++ [c]).length = E.length + 1 from by simp]; exact HX', hA', R'⟩
            case measure => simp [intOf]; omega
        · cases up with
          | true =>
            have hd16 : decide ((10 : Int) ≤ (xN : Int) % 16) = true := by simp; omega
            have hcN : (UInt8.ofNat (55 + xN % 16)).toNat = 55 + xN % 16 := toNat_small (by omega)
            have HD : Hid (dig true (UInt8.ofNat (55 + xN % 16)).toNat = some (xN % 16)) := by rw [hcN]; exact Lib.hid (dig_upper (by omega) (by omega))
            have HC : Hid (65 + (xN : Int) % 16 - 10 = ((UInt8.ofNat (55 + xN % 16)).toNat : Int)) := by rw [hcN]; exact Lib.hid (by omega)
            clear hcN
            generalize UInt8.ofNat (55 + xN % 16) = c at HD HC
            have hA' := hA.store (by omega) c HC.out
            have R' := R.setCell (j := E.length) hDg (.int .u8 (65 + (xN : Int) % 16 - 10))
            have HX1 := pow_step HX.out.1 hE
            have HX2 := spell_step (B := 16) rfl HD.out HX.out.2
            have HX' : Hid (xN / 16 < 16 ^ (10 - (E.length + 1)) ∧ run true (xN / 16) (E ++ [c]).reverse = some vN) := Lib.hid ⟨HX1, HX2⟩
            clear HX1 HX2 HD HX hA R
            by_cases hq : xN < 16
            · have hr0 : Hid (run true 0 (E ++ [c]).reverse = some vN) := by have := HX'.out.2; rw [Nat.div_eq_of_lt hq] at this; exact Lib.hid this
              have hq0 : (((xN : Nat) : Int) / 16 == 0) = true := by simp; omega
              clear HX'
              go_wp2
              clear hfz ho0 hq hq0 HC hd16 hd
              generalize wr.setCell ⟨D, E.length, none⟩ (.int .u8 (65 + (xN : Int) % 16 - 10)) = wz at hA' R' ⊢
              have hE1 : (E ++ [c]).length = E.length + 1 := by simp
              have hE2 : ((E.length : Int) + 1) = (((E ++ [c]).length : Nat) : Int) := by rw [hE1]; omega
              rw [hE2]
              have hE3 : 0 < (E ++ [c]).length ∧ (E ++ [c]).length ≤ 10 := by omega
              clear hE1 hE2 hE
              generalize E ++ [c] = F at hA' hr0 hE3 ⊢
              go_loopw [10, 14] (fun v n wx => ∃ (m : Nat) (l2 : List UInt8), m ≤ F.length ∧ n = .int .i64 (m : Int) ∧ v = .slice (some ⟨w.heap.size, 0, none⟩) l2.length (p + 12) ∧ Hid (l2 = l ++ (F.drop m).reverse) ∧ Arr wx D F ∧ Ref w wx w.heap.size (p + 12) l2)
                (fun _ n _ => (intOf n).toNat)
              case atStart => exact ⟨F.length, l, Nat.le_refl _, rfl, rfl, Lib.hid (by simp), hA', R'⟩
              case round =>
                obtain ⟨m, l2, hm, rfl, rfl, hl2, hA2, R2⟩ := hrel
                clear hA' R'
                have hl2n : l2.length ≤ 2 + p + (F.length - m) := by rw [hl2.out, List.length_append, List.length_reverse, List.length_drop]; omega
                cases m with
                | succ m =>
                  have hcell := hA2.cell m (by omega)
                  go_wp2_with (at_builtin; refine Hid.out ?_)
                  refine Lib.hid ?_
                  refine wpList_append_fits _ rfl _ _ 22 rfl w.heap.size 5 i0 1 Tryd.underlying22 hi hz1 w.heap.size l2.length (p + 12) (Lib.byteCells l2) rfl (R2.own.alloc _) ⟨wr.heap.size, 0, none⟩ 1 1 [.int .u8 ((F.getD m 0).toNat : Int)] rfl rfl (cell_new_at _ _ (by simp) _ _) (oneU8 _) (by omega) ?_
                  intro w1 hown1 hg1
                  have R3 := R2.step _ (F.getD m 0) rfl hown1 hg1
                  have hA3 := hA2.kept hDg _ hg1
                  have hl3 : Hid (l2 ++ [F.getD m 0] = l ++ (F.drop m).reverse) := by rw [hl2.out, drop_reverse (show m < F.length by omega)]; exact Lib.hid (by simp)
                  clear hown1 hg1 hcell R2 hA2
                  go_wp2
                  go_roundw
                  case rel => exact ⟨m, l2 ++ [F.getD m 0], by omega, by go_num, by simp, hl3, hA3, R3⟩
                  case measure => simp [intOf]
                | zero =>
                  have hL : refOf l2 = if xml vN then some vN else none := by rw [hl2.out, hl0.out, List.drop_zero]; exact back_hex hE3.1 hr0.out
                  have hZ := zzCharRef _ l2 wr (hS.on R2.low) (R2.row (by omega) (by omega))
                  rw [hL] at hZ
                  have hlow := R2.low
                  have hle := R2.le
                  clear hL hl2 hl0 hr0 hA2 R2 hl2n hlp
                  cases hx : xml vN with
                  | true =>
                    rw [hx] at hZ
                    have hX := xml_yes hx
                    have hv' : vN ≤ 1114111 := xml_le hx
                    have hZ' : Calls Tryd.prog 7 #[.slice (some ⟨w.heap.size, 0, none⟩) l2.length (p + 12)] wr fun e w' => e = .returned (.tuple #[.int .i32 (vN : Int), .bool true]) ∧ Below wr.heap.size wr w' := hZ
                    clear hZ hx
                    go_wp2_with fail
                    refine hZ'.mono ?_
                    rintro e wv ⟨rfl, hbv⟩
                    clear hZ'
                    go_wp2_with (go_at_call 9; refine (code_yes _ _ hX).mono ?_; rintro e w' ⟨rfl, rfl⟩)
                    go_ret
                    exact ⟨rfl, hlow.trans (hbv.mono (by omega))⟩
                  | false =>
                    rw [hx] at hZ
                    have hX := xml_no hx
                    have hZ' : Calls Tryd.prog 7 #[.slice (some ⟨w.heap.size, 0, none⟩) l2.length (p + 12)] wr fun e w' => e = .returned (.tuple #[.int .i32 0, .bool false]) ∧ Below wr.heap.size wr w' := hZ
                    clear hZ hx
                    go_wp2_with fail
                    refine hZ'.mono ?_
                    rintro e wv ⟨rfl, hbv⟩
                    clear hZ'
                    go_wp2_with (go_at_call 9; refine (code_no _ _ hX).mono ?_; rintro e w' ⟨rfl, rfl⟩)
                    go_ret
                    exact ⟨rfl, hlow.trans (hbv.mono (by omega))⟩
            · have hq0 : (((xN : Nat) : Int) / 16 == 0) = false := by simp; omega
              have h9 : E.length + 1 ≤ 9 := pow_end HX'.out.1 (by omega)
              go_wp2
              go_roundw
              case rel => exact ⟨E ++ [c], xN / 16, by simp, by simp, by simp; omega, by omega, by rw [show (E ++ [c]).length = E.length + 1 from by simp]; exact HX', hA', R'⟩
              case measure => simp [intOf]; omega
          | false =>
            have hd16 : decide ((10 : Int) ≤ (xN : Int) % 16) = true := by simp; omega
            have hcN : (UInt8.ofNat (87 + xN % 16)).toNat = 87 + xN % 16 := toNat_small (by omega)
            have HD : Hid (dig true (UInt8.ofNat (87 + xN % 16)).toNat = some (xN % 16)) := by rw [hcN]; exact Lib.hid (dig_lower (by omega) (by omega))
            have HC : Hid (97 + (xN : Int) % 16 - 10 = ((UInt8.ofNat (87 + xN % 16)).toNat : Int)) := by rw [hcN]; exact Lib.hid (by omega)
            clear hcN
            generalize UInt8.ofNat (87 + xN % 16) = c at HD HC
            have hA' := hA.store (by omega) c HC.out
            have R' := R.setCell (j := E.length) hDg (.int .u8 (97 + (xN : Int) % 16 - 10))
            have HX1 := pow_step HX.out.1 hE
            have HX2 := spell_step (B := 16) rfl HD.out HX.out.2
            have HX' : Hid (xN / 16 < 16 ^ (10 - (E.length + 1)) ∧ run true (xN / 16) (E ++ [c]).reverse = some vN) := Lib.hid ⟨HX1, HX2⟩
            clear HX1 HX2 HD HX hA R
            by_cases hq : xN < 16
            · have hr0 : Hid (run true 0 (E ++ [c]).reverse = some vN) := by have := HX'.out.2; rw [Nat.div_eq_of_lt hq] at this; exact Lib.hid this
              have hq0 : (((xN : Nat) : Int) / 16 == 0) = true := by simp; omega
              clear HX'
              go_wp2
              clear hfz ho0 hq hq0 HC hd16 hd
              generalize wr.setCell ⟨D, E.length, none⟩ (.int .u8 (97 + (xN : Int) % 16 - 10)) = wz at hA' R' ⊢
              have hE1 : (E ++ [c]).length = E.length + 1 := by simp
              have hE2 : ((E.length : Int) + 1) = (((E ++ [c]).length : Nat) : Int) := by rw [hE1]; omega
              rw [hE2]
              have hE3 : 0 < (E ++ [c]).length ∧ (E ++ [c]).length ≤ 10 := by omega
              clear hE1 hE2 hE
              generalize E ++ [c] = F at hA' hr0 hE3 ⊢
              go_loopw [10, 14] (fun v n wx => ∃ (m : Nat) (l2 : List UInt8), m ≤ F.length ∧ n = .int .i64 (m : Int) ∧ v = .slice (some ⟨w.heap.size, 0, none⟩) l2.length (p + 12) ∧ Hid (l2 = l ++ (F.drop m).reverse) ∧ Arr wx D F ∧ Ref w wx w.heap.size (p + 12) l2)
                (fun _ n _ => (intOf n).toNat)
              case atStart => exact ⟨F.length, l, Nat.le_refl _, rfl, rfl, Lib.hid (by simp), hA', R'⟩
              case round =>
                obtain ⟨m, l2, hm, rfl, rfl, hl2, hA2, R2⟩ := hrel
                clear hA' R'
                have hl2n : l2.length ≤ 2 + p + (F.length - m) := by rw [hl2.out, List.length_append, List.length_reverse, List.length_drop]; omega
                cases m with
                | succ m =>
                  have hcell := hA2.cell m (by omega)
                  go_wp2_with (at_builtin; refine Hid.out ?_)
                  refine Lib.hid ?_
                  refine wpList_append_fits _ rfl _ _ 22 rfl w.heap.size 5 i0 1 Tryd.underlying22 hi hz1 w.heap.size l2.length (p + 12) (Lib.byteCells l2) rfl (R2.own.alloc _) ⟨wr.heap.size, 0, none⟩ 1 1 [.int .u8 ((F.getD m 0).toNat : Int)] rfl rfl (cell_new_at _ _ (by simp) _ _) (oneU8 _) (by omega) ?_
                  intro w1 hown1 hg1
                  have R3 := R2.step _ (F.getD m 0) rfl hown1 hg1
                  have hA3 := hA2.kept hDg _ hg1
                  have hl3 : Hid (l2 ++ [F.getD m 0] = l ++ (F.drop m).reverse) := by rw [hl2.out, drop_reverse (show m < F.length by omega)]; exact Lib.hid (by simp)
                  clear hown1 hg1 hcell R2 hA2
                  go_wp2
                  go_roundw
                  case rel => exact ⟨m, l2 ++ [F.getD m 0], by omega, by go_num, by simp, hl3, hA3, R3⟩
                  case measure => simp [intOf]
                | zero =>
                  have hL : refOf l2 = if xml vN then some vN else none := by rw [hl2.out, hl0.out, List.drop_zero]; exact back_hex hE3.1 hr0.out
                  have hZ := zzCharRef _ l2 wr (hS.on R2.low) (R2.row (by omega) (by omega))
                  rw [hL] at hZ
                  have hlow := R2.low
                  have hle := R2.le
                  clear hL hl2 hl0 hr0 hA2 R2 hl2n hlp
                  cases hx : xml vN with
                  | true =>
                    rw [hx] at hZ
                    have hX := xml_yes hx
                    have hv' : vN ≤ 1114111 := xml_le hx
                    have hZ' : Calls Tryd.prog 7 #[.slice (some ⟨w.heap.size, 0, none⟩) l2.length (p + 12)] wr fun e w' => e = .returned (.tuple #[.int .i32 (vN : Int), .bool true]) ∧ Below wr.heap.size wr w' := hZ
                    clear hZ hx
                    go_wp2_with fail
                    refine hZ'.mono ?_
                    rintro e wv ⟨rfl, hbv⟩
                    clear hZ'
                    go_wp2_with (go_at_call 9; refine (code_yes _ _ hX).mono ?_; rintro e w' ⟨rfl, rfl⟩)
                    go_ret
                    exact ⟨rfl, hlow.trans (hbv.mono (by omega))⟩
                  | false =>
                    rw [hx] at hZ
                    have hX := xml_no hx
                    have hZ' : Calls Tryd.prog 7 #[.slice (some ⟨w.heap.size, 0, none⟩) l2.length (p + 12)] wr fun e w' => e = .returned (.tuple #[.int .i32 0, .bool false]) ∧ Below wr.heap.size wr w' := hZ
                    clear hZ hx
                    go_wp2_with fail
                    refine hZ'.mono ?_
                    rintro e wv ⟨rfl, hbv⟩
                    clear hZ'
                    go_wp2_with (go_at_call 9; refine (code_no _ _ hX).mono ?_; rintro e w' ⟨rfl, rfl⟩)
                    go_ret
                    exact ⟨rfl, hlow.trans (hbv.mono (by omega))⟩
            · have hq0 : (((xN : Nat) : Int) / 16 == 0) = false := by simp; omega
              have h9 : E.length + 1 ≤ 9 := pow_end HX'.out.1 (by omega)
              go_wp2
              go_roundw
              case rel => exact ⟨E ++ [c], xN / 16, by simp, by simp, by simp; omega, by omega, by rw [show (E ++ [c]).length = E.length + 1 from by simp]; exact HX', hA', R'⟩
              case measure => simp [intOf]; omega
end Go.Proofs.Qxb6603688aDoor.Back
