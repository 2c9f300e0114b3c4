/-
  SEAT b6603688aD: internal/strconv.ParseUint(s, 10, 32) and (s, 16, 32), at every string that is not empty: a contract over this dump, after the kit's worked text for base 10.
-/
import Derived.Test.Qxb6603688aDoorRows
import Derived.Test.Qxb6603688aDoorPlain
import Derived.Lib.Strings
import Derived.Lib.Walk
import Derived.Lib.ConvBytes
import Derived.Lib.Hide
import Derived.Laws.Strings3
import Derived.Laws.Closers25
import Derived.Laws.Closers25b
import Derived.WalkKit
import Derived.BigCall
import Derived.BigGuard
namespace Go.Proofs.Qxb6603688aDoor.Walks
open Go.RowKit Plain

set_option maxRecDepth 100000 in
theorem low_bits : ∀ c : Fin 256, bits .or .u8 (c.val : Int) 32 = ((c.val ||| 32 : Nat) : Int) := by decide +kernel

/-- internal/strconv.lower: the bit 32 set. -/
theorem lower (c m : Nat) (hc : c < 256) (hm : Hid (m = c ||| 32)) (w : World) :
    Calls Tryd.prog 16 #[.int .u8 (c : Int)] w fun e w' => e = .returned (.int .u8 (m : Int)) ∧ w' = w := by
  have hb : bits .or .u8 (c : Int) 32 = (m : Int) := by rw [hm.out]; exact low_bits ⟨c, hc⟩
  go_enter Tryd.func16, Tryd.ntmps16
  go_wp2
  go_ret
  exact ⟨rfl, rfl⟩

/-- How the inner ParseUint ends: the number that the digits spell, where it fits 32 bits; else an error's number, and the digits spell nothing that fits. -/
def Ends (hex : Bool) (l : List UInt8) (e : Ending) : Prop :=
  (∃ n : Nat, e = .returned (.tuple #[.int .u64 n, .nilIface]) ∧ n ≤ 4294967295 ∧ run hex 0 l = some n) ∨
  (∃ x q : Int, e = .returned (.tuple #[.int .u64 x, .iface 39 (.int .i64 q)]) ∧ (q = 1 ∨ q = 2) ∧ ∀ n, run hex 0 l = some n → 4294967296 ≤ n)

theorem ends_none {hex : Bool} {l : List UInt8} {x q : Int} (hq : q = 1 ∨ q = 2) (h : run hex 0 l = none) : Ends hex l (.returned (.tuple #[.int .u64 x, .iface 39 (.int .i64 q)])) :=
  .inr ⟨x, q, rfl, hq, fun n hn => by rw [h] at hn; cases hn⟩

theorem ends_big {hex : Bool} {l r : List UInt8} {x q : Int} {acc : Nat} (hq : q = 1 ∨ q = 2) (h : run hex 0 l = run hex acc r) (ha : 4294967295 < acc) : Ends hex l (.returned (.tuple #[.int .u64 x, .iface 39 (.int .i64 q)])) :=
  .inr ⟨x, q, rfl, hq, fun n hn => by rw [h] at hn; have := run_ge r acc n hn; omega⟩

theorem ends_ok {hex : Bool} {l : List UInt8} {acc : Nat} (h : run hex 0 l = some acc) (ha : acc ≤ 4294967295) : Ends hex l (.returned (.tuple #[.int .u64 acc, .nilIface])) :=
  .inl ⟨acc, rfl, ha, h⟩

set_option maxHeartbeats 32000000 in
set_option maxRecDepth 100000 in
theorem inner_dec (t : ByteArray) (hne : t.size ≠ 0) (hmax : t.size ≤ 9223372036854775806) (w : World) :
    Calls Tryd.prog 14 #[.string t, .int .i64 10, .int .i64 32] w fun e w' => Ends false t.data.toList e ∧ w' = Lib.bytesWorld w 5 t := by
  have hemp : t.toList.isEmpty = false := by
    rw [← decide_eq_emptyBytes]
    exact decide_eq_false (fun h => hne (by rw [h]; rfl))
  have hcv := Lib.run_convert_string_bytes (P := Tryd.prog) w 9 22 5 t (u := .string) Tryd.underlying9 Tryd.underlying22 Tryd.underlying5
  have hB : ∀ j, j < t.size → (Lib.bytesWorld w 5 t).cell? ⟨w.heap.size, j, none⟩ = some (.int .u8 (t.data.toList.getD j 0).toNat) := fun j hj => Lib.bytesWorld_cell w 5 t j hj
  obtain ⟨W1, hW1⟩ : ∃ W1, W1 = Lib.bytesWorld w 5 t := ⟨_, rfl⟩
  rw [← hW1] at hcv hB ⊢
  clear hW1
  obtain ⟨bs, hL⟩ : ∃ bs, bs = t.data.toList := ⟨_, rfl⟩
  have hLn : bs.length = t.size := by rw [hL, Lib.size_eq]
  rw [← hL] at hB ⊢
  clear hL
  have hmv : IntKind.u64.wrap (IntKind.u64.wrap 4294967296 - 1) = 4294967295 := by
    rw [IntKind.wrap_u64, IntKind.wrap_u64]
    decide
  go_enter Tryd.func14, Tryd.ntmps14
  go_wp2
  go_loop [12, 13, 101] (fun vu vn vi => ∃ (k acc : Nat) (a : Int), vu = .bool false ∧ vn = .int .u64 a ∧ vi = .int .i64 k ∧ k ≤ t.size ∧ Hid (a = (acc : Int) ∧ acc ≤ 4294967295 ∧ run false 0 bs = run false acc (bs.drop k)))
    (fun _ _ vi => t.size - (intOf vi).toNat)
  case atStart => exact ⟨0, 0, 0, rfl, rfl, rfl, by omega, rfl, by omega, rfl⟩
  case round =>
    obtain ⟨k, acc, a, rfl, rfl, rfl, hk, hh⟩ := hrel
    obtain ⟨ha, hacc, hdec⟩ := hh.out
    clear hh
    have a0 : 0 ≤ a := by omega
    have a1 : a ≤ 4294967295 := by omega
    by_cases hkn : k < t.size
    · have hc := hB k hkn
      have hdrop : bs.drop k = bs[k]'(by omega) :: bs.drop (k + 1) := List.drop_eq_getElem_cons (by omega)
      have hget : bs.getD k 0 = bs[k]'(by omega) := by simp [List.getD, List.getElem?_eq_getElem (show k < bs.length by omega)]
      rw [hdrop] at hdec
      rw [hget] at hc
      generalize bs[k]'(by omega) = c at hc hdec
      have hc256 : c.toNat < 256 := c.toNat_lt
      clear hB hdrop hget
      by_cases hdig : 48 ≤ c.toNat ∧ c.toNat ≤ 57
      · have hD : dig false c.toNat = some (c.toNat - 48) := dig_dec hdig
        obtain ⟨hd0, hd1⟩ := hdig
        have hF : run false 0 bs = run false (acc * 10 + (c.toNat - 48)) (bs.drop (k + 1)) := hdec.trans (run_some hD)
        clear hD hdec
        by_cases hov : 4294967295 < acc * 10 + (c.toNat - 48)
        · -- OVER THE SIZE
          have iov : 4294967295 < a * 10 + ((c.toNat : Int) - 48) := by omega
          have HE : Hid (Ends false bs (.returned (.tuple #[.int .u64 4294967295, .iface 39 (.int .i64 1)]))) := Lib.hid (ends_big (.inl rfl) hF hov)
          clear hacc hF hov ha
          go_wp2
          go_ret2
          exact ⟨HE.out, rfl⟩
        · have HN : Hid (a * 10 + ((c.toNat : Int) - 48) = ((acc * 10 + (c.toNat - 48) : Nat) : Int) ∧ acc * 10 + (c.toNat - 48) ≤ 4294967295 ∧ run false 0 bs = run false (acc * 10 + (c.toNat - 48)) (bs.drop (k + 1))) := Lib.hid ⟨by omega, by omega, hF⟩
          have iov : a * 10 + ((c.toNat : Int) - 48) ≤ 4294967295 := by omega
          clear hacc hF hov ha
          go_wp2
          refine ⟨⟨k + 1, acc * 10 + (c.toNat - 48), a * 10 + ((c.toNat : Int) - 48), rfl, (by first | rfl | (congr 1; omega)), (by first | rfl | (congr 1; omega)), by omega, HN⟩, by simp [intOf]; omega⟩
      · -- NO DIGIT
        have HE : Hid (Ends false bs (.returned (.tuple #[.int .u64 0, .iface 39 (.int .i64 2)]))) := Lib.hid (ends_none (.inr rfl) (hdec.trans (run_none (dec_no hdig))))
        clear hacc hdec ha
        obtain ⟨m, hm⟩ : ∃ m, Hid (m = c.toNat ||| 32) := ⟨_, rfl⟩
        have hm2 : m < 256 := by rw [hm.out]; exact Nat.or_lt_two_pow (n := 8) hc256 (by decide)
        by_cases h95 : c.toNat = 95
        · rw [h95] at hc
          clear h95 hdig hc256 hm hm2
          go_wp2_with (go_at_call 16; refine (lower 95 127 (by decide) rfl _).mono ?_; rintro e w' ⟨rfl, rfl⟩)
          go_ret2
          exact ⟨HE.out, rfl⟩
        · have h95' : (((c.toNat : Nat) : Int) == 95) = false := by simp; omega
          go_wp2_with (go_at_call 16; refine (lower c.toNat m hc256 hm _).mono ?_; rintro e w' ⟨rfl, rfl⟩)
          all_goals go_ret2
          all_goals exact ⟨HE.out, rfl⟩
    · -- THE BYTES ARE AT AN END
      have hkk : k = t.size := by omega
      subst hkk
      have hF : run false acc (bs.drop t.size) = some acc := by rw [List.drop_eq_nil_of_le (by omega)]; rfl
      have HE : Hid (Ends false bs (.returned (.tuple #[.int .u64 (acc : Int), .nilIface]))) := Lib.hid (ends_ok (hdec.trans hF) hacc)
      clear hdec hF hacc
      subst ha
      clear a0 a1
      go_wp2
      go_ret2
      exact ⟨HE.out, rfl⟩

set_option maxHeartbeats 32000000 in
set_option maxRecDepth 100000 in
theorem inner_hex (t : ByteArray) (hne : t.size ≠ 0) (hmax : t.size ≤ 9223372036854775806) (w : World) :
    Calls Tryd.prog 14 #[.string t, .int .i64 16, .int .i64 32] w fun e w' => Ends true t.data.toList e ∧ w' = Lib.bytesWorld w 5 t := by
  have hemp : t.toList.isEmpty = false := by
    rw [← decide_eq_emptyBytes]
    exact decide_eq_false (fun h => hne (by rw [h]; rfl))
  have hcv := Lib.run_convert_string_bytes (P := Tryd.prog) w 9 22 5 t (u := .string) Tryd.underlying9 Tryd.underlying22 Tryd.underlying5
  have hB : ∀ j, j < t.size → (Lib.bytesWorld w 5 t).cell? ⟨w.heap.size, j, none⟩ = some (.int .u8 (t.data.toList.getD j 0).toNat) := fun j hj => Lib.bytesWorld_cell w 5 t j hj
  obtain ⟨W1, hW1⟩ : ∃ W1, W1 = Lib.bytesWorld w 5 t := ⟨_, rfl⟩
  rw [← hW1] at hcv hB ⊢
  clear hW1
  obtain ⟨bs, hL⟩ : ∃ bs, bs = t.data.toList := ⟨_, rfl⟩
  have hLn : bs.length = t.size := by rw [hL, Lib.size_eq]
  rw [← hL] at hB ⊢
  clear hL
  have hmv : IntKind.u64.wrap (IntKind.u64.wrap 4294967296 - 1) = 4294967295 := by
    rw [IntKind.wrap_u64, IntKind.wrap_u64]
    decide
  go_enter Tryd.func14, Tryd.ntmps14
  go_wp2
  go_loop [12, 13, 101] (fun vu vn vi => ∃ (k acc : Nat) (a : Int), vu = .bool false ∧ vn = .int .u64 a ∧ vi = .int .i64 k ∧ k ≤ t.size ∧ Hid (a = (acc : Int) ∧ acc ≤ 4294967295 ∧ run true 0 bs = run true acc (bs.drop k)))
    (fun _ _ vi => t.size - (intOf vi).toNat)
  case atStart => exact ⟨0, 0, 0, rfl, rfl, rfl, by omega, rfl, by omega, rfl⟩
  case round =>
    obtain ⟨k, acc, a, rfl, rfl, rfl, hk, hh⟩ := hrel
    obtain ⟨ha, hacc, hdec⟩ := hh.out
    clear hh
    have a0 : 0 ≤ a := by omega
    have a1 : a ≤ 4294967295 := by omega
    by_cases hkn : k < t.size
    · have hc := hB k hkn
      have hdrop : bs.drop k = bs[k]'(by omega) :: bs.drop (k + 1) := List.drop_eq_getElem_cons (by omega)
      have hget : bs.getD k 0 = bs[k]'(by omega) := by simp [List.getD, List.getElem?_eq_getElem (show k < bs.length by omega)]
      rw [hdrop] at hdec
      rw [hget] at hc
      generalize bs[k]'(by omega) = c at hc hdec
      have hc256 : c.toNat < 256 := c.toNat_lt
      clear hB hdrop hget
      by_cases hdig : 48 ≤ c.toNat ∧ c.toNat ≤ 57
      · have hD : dig true c.toNat = some (c.toNat - 48) := dig_dec hdig
        obtain ⟨hd0, hd1⟩ := hdig
        have hF : run true 0 bs = run true (acc * 16 + (c.toNat - 48)) (bs.drop (k + 1)) := hdec.trans (run_some hD)
        clear hD hdec
        by_cases hov : 4294967295 < acc * 16 + (c.toNat - 48)
        · -- OVER THE SIZE
          have iov : 4294967295 < a * 16 + ((c.toNat : Int) - 48) := by omega
          have HE : Hid (Ends true bs (.returned (.tuple #[.int .u64 4294967295, .iface 39 (.int .i64 1)]))) := Lib.hid (ends_big (.inl rfl) hF hov)
          clear hacc hF hov ha
          go_wp2
          go_ret2
          exact ⟨HE.out, rfl⟩
        · have HN : Hid (a * 16 + ((c.toNat : Int) - 48) = ((acc * 16 + (c.toNat - 48) : Nat) : Int) ∧ acc * 16 + (c.toNat - 48) ≤ 4294967295 ∧ run true 0 bs = run true (acc * 16 + (c.toNat - 48)) (bs.drop (k + 1))) := Lib.hid ⟨by omega, by omega, hF⟩
          have iov : a * 16 + ((c.toNat : Int) - 48) ≤ 4294967295 := by omega
          clear hacc hF hov ha
          go_wp2
          refine ⟨⟨k + 1, acc * 16 + (c.toNat - 48), a * 16 + ((c.toNat : Int) - 48), rfl, (by first | rfl | (congr 1; omega)), (by first | rfl | (congr 1; omega)), by omega, HN⟩, by simp [intOf]; omega⟩
      · -- NO DECIMAL DIGIT
        obtain ⟨m, hm⟩ : ∃ m, Hid (m = c.toNat ||| 32) := ⟨_, rfl⟩
        have hm2 : m < 256 := by rw [hm.out]; exact Nat.or_lt_two_pow (n := 8) hc256 (by decide)
        by_cases hlet : 97 ≤ m ∧ m ≤ 102
        · -- A HEX DIGIT
          have hD : dig true c.toNat = some (m - 87) := by
            have h1 := lower_hex ⟨c.toNat, hc256⟩ hdig (by rw [hm.out] at hlet; exact hlet)
            rw [hm.out]; exact h1
          have h95 : c.toNat ≠ 95 := by
            intro h; rw [hm.out, h] at hlet; exact absurd hlet (by decide)
          have h95' : (((c.toNat : Nat) : Int) == 95) = false := by simp; omega
          obtain ⟨hl0, hl1⟩ := hlet
          have hF : run true 0 bs = run true (acc * 16 + (m - 87)) (bs.drop (k + 1)) := hdec.trans (run_some hD)
          clear hD hdec h95
          by_cases hov : 4294967295 < acc * 16 + (m - 87)
          · -- OVER THE SIZE
            have iov : 4294967295 < a * 16 + ((m : Int) - 97 + 10) := by omega
            have HE : Hid (Ends true bs (.returned (.tuple #[.int .u64 4294967295, .iface 39 (.int .i64 1)]))) := Lib.hid (ends_big (.inl rfl) hF hov)
            clear hacc hF hov ha
            go_wp2_with (go_at_call 16; refine (lower c.toNat m hc256 hm _).mono ?_; rintro e w' ⟨rfl, rfl⟩)
            all_goals go_ret2
            all_goals exact ⟨HE.out, rfl⟩
          · have HN : Hid (a * 16 + ((m : Int) - 97 + 10) = ((acc * 16 + (m - 87) : Nat) : Int) ∧ acc * 16 + (m - 87) ≤ 4294967295 ∧ run true 0 bs = run true (acc * 16 + (m - 87)) (bs.drop (k + 1))) := Lib.hid ⟨by omega, by omega, hF⟩
            have iov : a * 16 + ((m : Int) - 97 + 10) ≤ 4294967295 := by omega
            clear hacc hF hov ha
            go_wp2_with (go_at_call 16; refine (lower c.toNat m hc256 hm _).mono ?_; rintro e w' ⟨rfl, rfl⟩)
            all_goals refine ⟨⟨k + 1, acc * 16 + (m - 87), a * 16 + ((m : Int) - 97 + 10), rfl, (by first | rfl | (congr 1; omega)), (by first | rfl | (congr 1; omega)), by omega, HN⟩, by simp [intOf]; omega⟩
        · -- NO DIGIT AT ALL
          have HE : Hid (Ends true bs (.returned (.tuple #[.int .u64 0, .iface 39 (.int .i64 2)]))) := Lib.hid (ends_none (.inr rfl) (hdec.trans (run_none (lower_no ⟨c.toNat, hc256⟩ hdig (by rw [hm.out] at hlet; exact hlet)))))
          clear hacc hdec ha
          by_cases h95 : c.toNat = 95
          · rw [h95] at hc
            clear h95 hdig hc256 hm hm2 hlet
            go_wp2_with (go_at_call 16; refine (lower 95 127 (by decide) rfl _).mono ?_; rintro e w' ⟨rfl, rfl⟩)
            go_ret2
            exact ⟨HE.out, rfl⟩
          · have h95' : (((c.toNat : Nat) : Int) == 95) = false := by simp; omega
            rcases (show m < 97 ∨ (103 ≤ m ∧ m ≤ 122) ∨ 122 < m from by omega) with hm1 | hm1 | hm1
            all_goals (
              clear hlet
              go_wp2_with (go_at_call 16; refine (lower c.toNat m hc256 hm _).mono ?_; rintro e w' ⟨rfl, rfl⟩)
              all_goals go_ret2
              all_goals exact ⟨HE.out, rfl⟩)
    · -- THE BYTES ARE AT AN END
      have hkk : k = t.size := by omega
      subst hkk
      have hF : run true acc (bs.drop t.size) = some acc := by rw [List.drop_eq_nil_of_le (by omega)]; rfl
      have HE : Hid (Ends true bs (.returned (.tuple #[.int .u64 (acc : Int), .nilIface]))) := Lib.hid (ends_ok (hdec.trans hF) hacc)
      clear hdec hF hacc
      subst ha
      clear a0 a1
      go_wp2
      go_ret2
      exact ⟨HE.out, rfl⟩
end Go.Proofs.Qxb6603688aDoor.Walks
