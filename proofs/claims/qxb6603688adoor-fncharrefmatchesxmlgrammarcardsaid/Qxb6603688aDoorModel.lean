/-
  SEAT b6603688aD: refDigit and modelCharRef: the law's own model, over this dump: it computes the same plain function as charRef.
-/
import Derived.Test.Qxb6603688aDoorChar
import Derived.Test.Qxb6603688aDoorXml
namespace Go.Proofs.Qxb6603688aDoor.Walks
open Go.RowKit Plain
set_option linter.unusedVariables false

theorem ret_i64 {a b : Int} (h : a = b) : Ending.returned (.int .i64 a) = .returned (.int .i64 b) := by rw [h]

/-- refDigit at a digit. -/
theorem refDigit_some (hex : Bool) (c d : Nat) (hc : c < 256) (h : dig hex c = some d) (w : World) :
    Calls Tryd.prog 11 #[.int .u8 (c : Int), .bool hex] w fun e w' => e = .returned (.int .i64 (d : Int)) ∧ w' = w := by
  unfold dig at h
  split at h
  · rename_i hx
    obtain ⟨h0, h1⟩ := hx
    have hd : Hid (d = c - 48) := by cases h; exact Lib.hid rfl
    clear h
    go_enter Tryd.func11, Tryd.ntmps11
    go_wp2
    go_ret
    exact ⟨ret_i64 (by rw [hd.out]; omega), rfl⟩
  · rename_i hn
    split at h
    · rename_i hx
      obtain ⟨rfl, h0, h1⟩ := hx
      have hd : Hid (d = c - 87) := by cases h; exact Lib.hid rfl
      clear h hn
      go_enter Tryd.func11, Tryd.ntmps11
      go_wp2
      go_ret
      exact ⟨ret_i64 (by rw [hd.out]; omega), rfl⟩
    · rename_i hn2
      split at h
      · rename_i hx
        obtain ⟨rfl, h0, h1⟩ := hx
        have hd : Hid (d = c - 55) := by cases h; exact Lib.hid rfl
        clear h hn hn2
        go_enter Tryd.func11, Tryd.ntmps11
        go_wp2
        go_ret
        exact ⟨ret_i64 (by rw [hd.out]; omega), rfl⟩
      · cases h

/-- refDigit at a byte that is no digit. -/
theorem refDigit_none (hex : Bool) (c : Nat) (hc : c < 256) (h : dig hex c = none) (w : World) :
    Calls Tryd.prog 11 #[.int .u8 (c : Int), .bool hex] w fun e w' => e = .returned (.int .i64 (-1)) ∧ w' = w := by
  have hA : ¬ (48 ≤ c ∧ c ≤ 57) := by intro hx; rw [dig_dec hx] at h; cases h
  cases hex with
  | false =>
    clear h
    rcases (show c < 48 ∨ 57 < c from by omega) with h1 | h1
    all_goals (
      clear hA
      go_enter Tryd.func11, Tryd.ntmps11
      go_wp2
      go_ret
      exact ⟨rfl, rfl⟩)
  | true =>
    have hB : ¬ (97 ≤ c ∧ c ≤ 102) := by intro hx; unfold dig at h; rw [if_neg hA, if_pos ⟨rfl, hx⟩] at h; cases h
    have hC : ¬ (65 ≤ c ∧ c ≤ 70) := by intro hx; unfold dig at h; rw [if_neg hA, if_neg (fun e => hB e.2), if_pos ⟨rfl, hx⟩] at h; cases h
    clear h
    rcases (show c < 48 ∨ (57 < c ∧ c < 65) ∨ (70 < c ∧ c < 97) ∨ 102 < c from by omega) with h1 | ⟨h1, h2⟩ | ⟨h1, h2⟩ | h1
    all_goals (
      clear hA hB hC
      go_enter Tryd.func11, Tryd.ntmps11
      go_wp2
      go_ret
      exact ⟨rfl, rfl⟩)

/-- The model at a row shorter than two bytes. -/
theorem model_short (ad : Option Addr) (len cap : Nat) (l : List UInt8) (hl : l.length = len) (hlen : len ≤ 1) (w : World) :
    Calls Tryd.prog 8 #[.slice ad len cap] w fun e w' => e = .returned (refVal (refOf l)) ∧ w' = w := by
  have HF : Hid (refOf l = none) := Lib.hid (refOf_no (by omega))
  clear hl
  go_enter Tryd.func8, Tryd.ntmps8
  go_wp2
  go_ret2
  exact ⟨refVal_none HF.out, rfl⟩

/-- The model at a row whose first byte is not the mark. -/
theorem model_other (b len cap : Nat) (l : List UInt8) (hl : l.length = len) (hlen : 1 < len) (hlm : len ≤ 281474976710656) (w : World)
    (hc : ∀ j, j < len → w.cell? ⟨b, j, none⟩ = some (.int .u8 ((l.getD j 0).toNat : Int))) (h0 : l.getD 0 0 ≠ 35) :
    Calls Tryd.prog 8 #[.slice (some ⟨b, 0, none⟩) len cap] w fun e w' => e = .returned (refVal (refOf l)) ∧ w' = w := by
  have HF : Hid (refOf l = none) := Lib.hid (refOf_no (fun e => h0 e.2))
  have hc0 := hc 0 (by omega)
  have hn0 : (((l.getD 0 0).toNat : Int) == 35) = false := by
    simp only [beq_eq_false_iff_ne]
    intro e
    exact h0 (UInt8.toNat_inj.1 (show (l.getD 0 0).toNat = (35 : UInt8).toNat from by have : (35 : UInt8).toNat = 35 := rfl; omega))
  generalize (l.getD 0 0).toNat = c0 at hc0 hn0
  have hn0' : ((c0 : Int) != 35) = true := by rw [bne, hn0]; rfl
  have hlt2 : decide ((len : Int) < 2) = false := by simp; omega
  clear h0 hl hc
  go_enter Tryd.func8, Tryd.ntmps8
  go_wp2
  all_goals go_ret2
  all_goals exact ⟨refVal_none HF.out, rfl⟩

/-- The model at '#x' alone. -/
theorem model_x (b len cap : Nat) (l : List UInt8) (hl : l.length = len) (hlen : 1 < len) (hlen2 : len ≤ 2) (w : World)
    (hc : ∀ j, j < len → w.cell? ⟨b, j, none⟩ = some (.int .u8 ((l.getD j 0).toNat : Int))) (h0 : l.getD 0 0 = 35) (h1 : l.getD 1 0 = 120) :
    Calls Tryd.prog 8 #[.slice (some ⟨b, 0, none⟩) len cap] w fun e w' => e = .returned (refVal (refOf l)) ∧ w' = w := by
  have HF : Hid (refOf l = none) := Lib.hid (refOf_x (by omega) h0 h1)
  have hc0 : w.cell? ⟨b, 0, none⟩ = some (.int .u8 35) := by have := hc 0 (by omega); rw [h0] at this; exact this
  have hc1 : w.cell? ⟨b, 1, none⟩ = some (.int .u8 120) := by have := hc 1 (by omega); rw [h1] at this; exact this
  have hlt2 : decide ((len : Int) < 2) = false := by simp; omega
  clear h0 h1 hl hc
  go_enter Tryd.func8, Tryd.ntmps8
  go_wp2
  go_ret2
  exact ⟨refVal_none HF.out, rfl⟩

theorem ans_big {hex : Bool} {l r : List UInt8} {acc : Nat} (h : run hex 0 l = run hex acc r) (ha : 1114111 < acc) : ans hex l = none :=
  ans_none (fun n hn => by rw [h] at hn; have := run_ge r acc n hn; omega)
theorem ans_bad {hex : Bool} {l : List UInt8} (h : run hex 0 l = none) : ans hex l = none :=
  ans_none (fun n hn => by rw [h] at hn; cases hn)

/-- What holds at the head of each round of the model's loop. -/
def Inv (hex : Bool) (l : List UInt8) (S k acc val : Nat) (big : Bool) : Prop :=
  (big = false → acc = val ∧ val ≤ 1114111) ∧ (big = true → 1114111 < acc) ∧ run hex 0 (l.drop S) = run hex acc (l.drop k)

theorem Inv.start (hex : Bool) (l : List UInt8) (S : Nat) : Inv hex l S S 0 0 false := ⟨fun _ => ⟨rfl, by omega⟩, (fun h => by cases h), rfl⟩

theorem Inv.stepBig {hex : Bool} {l : List UInt8} {S k acc val d B : Nat} (h : Inv hex l S k acc val true) (hB : 10 ≤ B) (hr : run hex 0 (l.drop S) = run hex (acc * B + d) (l.drop (k + 1))) : Inv hex l S (k + 1) (acc * B + d) val true := by
  refine ⟨(fun e => by cases e), fun e => ?_, hr⟩
  have h1 := h.2.1 rfl
  have h2 : acc * 10 ≤ acc * B := Nat.mul_le_mul_left _ hB
  omega

theorem Inv.stepOver {hex : Bool} {l : List UInt8} {S k acc : Nat} (ha : 1114111 < acc) (hr : run hex 0 (l.drop S) = run hex acc (l.drop k)) : Inv hex l S k acc acc true :=
  ⟨(fun e => by cases e), fun _ => ha, hr⟩

theorem Inv.stepSmall {hex : Bool} {l : List UInt8} {S k acc : Nat} (ha : acc ≤ 1114111) (hr : run hex 0 (l.drop S) = run hex acc (l.drop k)) : Inv hex l S k acc acc false :=
  ⟨fun _ => ⟨rfl, ha⟩, (fun e => by cases e), hr⟩

set_option maxHeartbeats 8000000 in
set_option maxRecDepth 100000 in
theorem model_hex (b len cap : Nat) (l : List UInt8) (hl : l.length = len) (hlm : len ≤ 281474976710656) (w : World)
    (hc : ∀ j, j < len → w.cell? ⟨b, j, none⟩ = some (.int .u8 ((l.getD j 0).toNat : Int))) (h0 : l.getD 0 0 = 35) (hlen : 2 < len) (h1 : l.getD 1 0 = 120) :
    Calls Tryd.prog 8 #[.slice (some ⟨b, 0, none⟩) len cap] w fun e w' => e = .returned (refVal (refOf l)) ∧ w' = w := by
  have HF : Hid (refOf l = ans true (l.drop 2)) := Lib.hid (refOf_hex (by omega) h0 h1)
  have hc0 : w.cell? ⟨b, 0, none⟩ = some (.int .u8 35) := by have := hc 0 (by omega); rw [h0] at this; exact this
  have hc1 : w.cell? ⟨b, 1, none⟩ = some (.int .u8 120) := by have := hc 1 (by omega); rw [h1] at this; exact this
  clear h1
  clear h0
  have HC : Hid (∀ j, j < len → w.cell? ⟨b, j, none⟩ = some (.int .u8 ((l.getD j 0).toNat : Int))) := hc
  clear hc
  have hlt2 : decide ((len : Int) < 2) = false := by simp; omega
  go_enter Tryd.func8, Tryd.ntmps8
  go_wp2
  go_loop [7, 8, 9] (fun vv vb vi => ∃ (k acc val : Nat) (big : Bool), vv = .int .u32 (val : Int) ∧ vb = .bool big ∧ vi = .int .i64 (k : Int) ∧ k ≤ len ∧ val ≤ 4294967295 ∧ Inv true l 2 k acc val big)
    (fun _ _ vi => len - (intOf vi).toNat)
  case atStart => exact ⟨2, 0, 0, false, rfl, rfl, rfl, by omega, by omega, Inv.start _ _ _⟩
  case round =>
    obtain ⟨k, acc, val, big, rfl, rfl, rfl, hk, hval, HH⟩ := hrel
    by_cases hkn : k < len
    · have hck := HC.out k hkn
      have hdrop : l.drop k = l[k]'(by omega) :: l.drop (k + 1) := List.drop_eq_getElem_cons (by omega)
      have hget : l.getD k 0 = l[k]'(by omega) := by simp [List.getD, List.getElem?_eq_getElem (show k < l.length by omega)]
      obtain ⟨hbf, hbt, hrun⟩ := id HH
      rw [hdrop] at hrun
      rw [hget] at hck
      generalize l[k]'(by omega) = c at hck hrun
      have hc256 : c.toNat < 256 := c.toNat_lt
      clear HC hdrop hget
      cases hd : dig true c.toNat with
      | none =>
        have HE : Hid (refOf l = none) := Lib.hid (HF.out.trans (ans_bad (hrun.trans (run_none hd))))
        clear hrun hbf hbt hl HF HH
        have hD := refDigit_none true c.toNat hc256 hd w
        clear hd
        go_wp2_with (go_at_call 11; refine hD.mono ?_; rintro e w' ⟨rfl, rfl⟩)
        go_ret2
        exact ⟨refVal_none HE.out, rfl⟩
      | some d =>
        have hdlt : d < 16 := dig_lt hd
        have hrun' : run true 0 (l.drop 2) = run true (acc * 16 + d) (l.drop (k + 1)) := hrun.trans (run_some hd)
        have hD := refDigit_some true c.toNat d hc256 hd w
        clear hd hrun hl
        cases big with
        | true =>
          have HN : Inv true l 2 (k + 1) (acc * 16 + d) val true := HH.stepBig (by omega) hrun'
          clear HH
          clear hrun' hbf hbt
          go_wp2_with (go_at_call 11; refine hD.mono ?_; rintro e w' ⟨rfl, rfl⟩)
          go_round
          case rel => exact ⟨k + 1, acc * 16 + d, val, true, rfl, rfl, by go_num, by omega, hval, HN⟩
          case measure => simp [intOf]; omega
        | false =>
          obtain ⟨rfl, hv1⟩ := hbf rfl
          clear hbf hbt HH
          by_cases hb : 1114111 < acc * 16 + d
          · have HN : Inv true l 2 (k + 1) (acc * 16 + d) (acc * 16 + d) true := Inv.stepOver hb hrun'
            clear hrun'
            go_wp2_with (go_at_call 11; refine hD.mono ?_; rintro e w' ⟨rfl, rfl⟩)
            go_round
            case rel => exact ⟨k + 1, acc * 16 + d, acc * 16 + d, true, by go_num, rfl, by go_num, by omega, by omega, HN⟩
            case measure => simp [intOf]; omega
          · have HN : Inv true l 2 (k + 1) (acc * 16 + d) (acc * 16 + d) false := Inv.stepSmall (by omega) hrun'
            clear hrun'
            go_wp2_with (go_at_call 11; refine hD.mono ?_; rintro e w' ⟨rfl, rfl⟩)
            go_round
            case rel => exact ⟨k + 1, acc * 16 + d, acc * 16 + d, false, by go_num, rfl, by go_num, by omega, by omega, HN⟩
            case measure => simp [intOf]; omega
    · obtain ⟨hbf, hbt, hrun⟩ := HH
      have hend : l.drop k = [] := List.drop_eq_nil_of_le (by omega)
      rw [hend] at hrun
      clear hend HC hl
      cases big with
      | true =>
        have HE : Hid (refOf l = none) := Lib.hid (HF.out.trans (ans_big hrun (hbt rfl)))
        clear hrun hbf hbt HF
        go_wp2
        go_ret2
        exact ⟨refVal_none HE.out, rfl⟩
      | false =>
        obtain ⟨rfl, hv1⟩ := hbf rfl
        clear hbf hbt
        cases hx : xml acc with
        | true =>
          have HE : Hid (refOf l = some acc) := Lib.hid (HF.out.trans (ans_yes hrun hx))
          have hX := xml_yes hx
          clear hrun hx HF
          go_wp2_with (go_at_call 9; refine (code_yes _ _ hX).mono ?_; rintro e w' ⟨rfl, rfl⟩)
          go_ret2
          exact ⟨refVal_some HE.out, rfl⟩
        | false =>
          have HE : Hid (refOf l = none) := Lib.hid (HF.out.trans (ans_no hrun hx))
          have hX := xml_no hx
          clear hrun hx HF
          go_wp2_with (go_at_call 9; refine (code_no _ _ hX).mono ?_; rintro e w' ⟨rfl, rfl⟩)
          go_ret2
          exact ⟨refVal_none HE.out, rfl⟩

set_option maxHeartbeats 8000000 in
set_option maxRecDepth 100000 in
theorem model_dec (b len cap : Nat) (l : List UInt8) (hl : l.length = len) (hlm : len ≤ 281474976710656) (w : World)
    (hc : ∀ j, j < len → w.cell? ⟨b, j, none⟩ = some (.int .u8 ((l.getD j 0).toNat : Int))) (h0 : l.getD 0 0 = 35) (hlen : 1 < len) (h1 : l.getD 1 0 ≠ 120) :
    Calls Tryd.prog 8 #[.slice (some ⟨b, 0, none⟩) len cap] w fun e w' => e = .returned (refVal (refOf l)) ∧ w' = w := by
  have HF : Hid (refOf l = ans false (l.drop 1)) := Lib.hid (refOf_dec (by omega) h0 (fun e => h1 e.2))
  have hc0 : w.cell? ⟨b, 0, none⟩ = some (.int .u8 35) := by have := hc 0 (by omega); rw [h0] at this; exact this
  have hc1 := hc 1 (by omega)
  have hn1 : (((l.getD 1 0).toNat : Int) == 120) = false := by
    simp only [beq_eq_false_iff_ne]
    intro e
    exact h1 (UInt8.toNat_inj.1 (show (l.getD 1 0).toNat = (120 : UInt8).toNat from by have : (120 : UInt8).toNat = 120 := rfl; omega))
  generalize (l.getD 1 0).toNat = c1 at hc1 hn1
  clear h1
  clear h0
  have HC : Hid (∀ j, j < len → w.cell? ⟨b, j, none⟩ = some (.int .u8 ((l.getD j 0).toNat : Int))) := hc
  clear hc
  have hlt2 : decide ((len : Int) < 2) = false := by simp; omega
  go_enter Tryd.func8, Tryd.ntmps8
  go_wp2
  go_loop [7, 8, 9] (fun vv vb vi => ∃ (k acc val : Nat) (big : Bool), vv = .int .u32 (val : Int) ∧ vb = .bool big ∧ vi = .int .i64 (k : Int) ∧ k ≤ len ∧ val ≤ 4294967295 ∧ Inv false l 1 k acc val big)
    (fun _ _ vi => len - (intOf vi).toNat)
  case atStart => exact ⟨1, 0, 0, false, rfl, rfl, rfl, by omega, by omega, Inv.start _ _ _⟩
  case round =>
    obtain ⟨k, acc, val, big, rfl, rfl, rfl, hk, hval, HH⟩ := hrel
    by_cases hkn : k < len
    · have hck := HC.out k hkn
      have hdrop : l.drop k = l[k]'(by omega) :: l.drop (k + 1) := List.drop_eq_getElem_cons (by omega)
      have hget : l.getD k 0 = l[k]'(by omega) := by simp [List.getD, List.getElem?_eq_getElem (show k < l.length by omega)]
      obtain ⟨hbf, hbt, hrun⟩ := id HH
      rw [hdrop] at hrun
      rw [hget] at hck
      generalize l[k]'(by omega) = c at hck hrun
      have hc256 : c.toNat < 256 := c.toNat_lt
      clear HC hdrop hget
      cases hd : dig false c.toNat with
      | none =>
        have HE : Hid (refOf l = none) := Lib.hid (HF.out.trans (ans_bad (hrun.trans (run_none hd))))
        clear hrun hbf hbt hl HF HH
        have hD := refDigit_none false c.toNat hc256 hd w
        clear hd
        go_wp2_with (go_at_call 11; refine hD.mono ?_; rintro e w' ⟨rfl, rfl⟩)
        go_ret2
        exact ⟨refVal_none HE.out, rfl⟩
      | some d =>
        have hdlt : d < 10 := dig_lt hd
        have hrun' : run false 0 (l.drop 1) = run false (acc * 10 + d) (l.drop (k + 1)) := hrun.trans (run_some hd)
        have hD := refDigit_some false c.toNat d hc256 hd w
        clear hd hrun hl
        cases big with
        | true =>
          have HN : Inv false l 1 (k + 1) (acc * 10 + d) val true := HH.stepBig (by omega) hrun'
          clear HH
          clear hrun' hbf hbt
          go_wp2_with (go_at_call 11; refine hD.mono ?_; rintro e w' ⟨rfl, rfl⟩)
          go_round
          case rel => exact ⟨k + 1, acc * 10 + d, val, true, rfl, rfl, by go_num, by omega, hval, HN⟩
          case measure => simp [intOf]; omega
        | false =>
          obtain ⟨rfl, hv1⟩ := hbf rfl
          clear hbf hbt HH
          by_cases hb : 1114111 < acc * 10 + d
          · have HN : Inv false l 1 (k + 1) (acc * 10 + d) (acc * 10 + d) true := Inv.stepOver hb hrun'
            clear hrun'
            go_wp2_with (go_at_call 11; refine hD.mono ?_; rintro e w' ⟨rfl, rfl⟩)
            go_round
            case rel => exact ⟨k + 1, acc * 10 + d, acc * 10 + d, true, by go_num, rfl, by go_num, by omega, by omega, HN⟩
            case measure => simp [intOf]; omega
          · have HN : Inv false l 1 (k + 1) (acc * 10 + d) (acc * 10 + d) false := Inv.stepSmall (by omega) hrun'
            clear hrun'
            go_wp2_with (go_at_call 11; refine hD.mono ?_; rintro e w' ⟨rfl, rfl⟩)
            go_round
            case rel => exact ⟨k + 1, acc * 10 + d, acc * 10 + d, false, by go_num, rfl, by go_num, by omega, by omega, HN⟩
            case measure => simp [intOf]; omega
    · obtain ⟨hbf, hbt, hrun⟩ := HH
      have hend : l.drop k = [] := List.drop_eq_nil_of_le (by omega)
      rw [hend] at hrun
      clear hend HC hl
      cases big with
      | true =>
        have HE : Hid (refOf l = none) := Lib.hid (HF.out.trans (ans_big hrun (hbt rfl)))
        clear hrun hbf hbt HF
        go_wp2
        go_ret2
        exact ⟨refVal_none HE.out, rfl⟩
      | false =>
        obtain ⟨rfl, hv1⟩ := hbf rfl
        clear hbf hbt
        cases hx : xml acc with
        | true =>
          have HE : Hid (refOf l = some acc) := Lib.hid (HF.out.trans (ans_yes hrun hx))
          have hX := xml_yes hx
          clear hrun hx HF
          go_wp2_with (go_at_call 9; refine (code_yes _ _ hX).mono ?_; rintro e w' ⟨rfl, rfl⟩)
          go_ret2
          exact ⟨refVal_some HE.out, rfl⟩
        | false =>
          have HE : Hid (refOf l = none) := Lib.hid (HF.out.trans (ans_no hrun hx))
          have hX := xml_no hx
          clear hrun hx HF
          go_wp2_with (go_at_call 9; refine (code_no _ _ hX).mono ?_; rintro e w' ⟨rfl, rfl⟩)
          go_ret2
          exact ⟨refVal_none HE.out, rfl⟩

/-- modelCharRef: the whole answer. -/
theorem model_any (v : Value) (l : List UInt8) (w : World) (h : Row w v l) :
    Calls Tryd.prog 8 #[v] w fun e w' => e = .returned (refVal (refOf l)) ∧ w' = w := by
  obtain ⟨ad, cap, rfl, hcap, hm, hr⟩ := h
  by_cases h1 : 1 < l.length
  · obtain ⟨b, rfl, hc⟩ := hr h1
    by_cases h0 : l.getD 0 0 = 35
    · by_cases hx : l.getD 1 0 = 120
      · by_cases h2 : 2 < l.length
        · exact model_hex b _ cap l rfl (by omega) w hc h0 h2 hx
        · exact model_x b _ cap l rfl h1 (by omega) w hc h0 hx
      · exact model_dec b _ cap l rfl (by omega) w hc h0 h1 hx
    · exact model_other b _ cap l rfl h1 (by omega) w hc h0
  · exact model_short ad _ cap l rfl (by omega) w
end Go.Proofs.Qxb6603688aDoor.Walks
