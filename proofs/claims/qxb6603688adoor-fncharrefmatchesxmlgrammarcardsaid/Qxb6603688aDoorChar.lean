/-
  SEAT b6603688aD: charRef and ZZCharRef: the whole answer at every row of bytes.
-/
import Derived.Test.Qxb6603688aDoorRef
namespace Go.Proofs.Qxb6603688aDoor.Walks
open Go.RowKit Plain
set_option linter.unusedVariables false

/-- A reference's answer as Go hands it back: the character and true, or 0 and false. -/
def refVal (o : Option Nat) : Value := .tuple #[.int .i32 ((o.getD 0 : Nat) : Int), .bool o.isSome]

theorem refVal_none {o : Option Nat} (h : o = none) : Ending.returned (.tuple #[.int .i32 0, .bool false]) = Ending.returned (refVal o) := by rw [h]; rfl
theorem refVal_some {o : Option Nat} {n : Nat} (h : o = some n) : Ending.returned (.tuple #[.int .i32 (n : Int), .bool true]) = Ending.returned (refVal o) := by rw [h]; rfl

theorem ans_err {hex : Bool} {l : List UInt8} (h : ∀ n, run hex 0 l = some n → 4294967296 ≤ n) : ans hex l = none :=
  ans_none (fun n hn => by have := h n hn; omega)
theorem ans_no {hex : Bool} {l : List UInt8} {n : Nat} (h : run hex 0 l = some n) (hx : xml n = false) : ans hex l = none := by rw [ans_some h, hx]; rfl
theorem ans_yes {hex : Bool} {l : List UInt8} {n : Nat} (h : run hex 0 l = some n) (hx : xml n = true) : ans hex l = some n := by rw [ans_some h, hx]; rfl

theorem xml_yes {n : Nat} (h : xml n = true) : (n : Int) = 9 ∨ (n : Int) = 10 ∨ (n : Int) = 13 ∨ (32 ≤ (n : Int) ∧ (n : Int) ≤ 55295) ∨ (57344 ≤ (n : Int) ∧ (n : Int) ≤ 65533) ∨ (65536 ≤ (n : Int) ∧ (n : Int) ≤ 1114111) := by
  unfold xml at h
  have := of_decide_eq_true h
  omega
theorem xml_no {n : Nat} (h : xml n = false) : (n : Int) < 9 ∨ (11 ≤ (n : Int) ∧ (n : Int) ≤ 12) ∨ (14 ≤ (n : Int) ∧ (n : Int) ≤ 31) ∨ (55296 ≤ (n : Int) ∧ (n : Int) ≤ 57343) ∨ (65534 ≤ (n : Int) ∧ (n : Int) ≤ 65535) ∨ 1114112 ≤ (n : Int) := by
  unfold xml at h
  have := of_decide_eq_false h
  omega

/-- The bytes from the d-th on, as 'string(ref[d:])' gives them. -/
theorem tail_string (b d len cap : Nat) (l : List UInt8) (hl : l.length = len) (w : World)
    (hc : ∀ j, j < len → w.cell? ⟨b, j, none⟩ = some (.int .u8 ((l.getD j 0).toNat : Int))) :
    (convert 22 9 (.slice (some ⟨b, d, none⟩) (len - d) (cap - d))).run Tryd.prog w = .ok (.string ⟨(l.drop d).toArray⟩) w := by
  have h := run_convert_bytes_back (P := Tryd.prog) w 22 9 5 ⟨b, d, none⟩ (cap - d) (l.drop d) Tryd.underlying22 Tryd.underlying5 Tryd.underlying9 (fun j hj => by
    have hj' : d + j < l.length := by rw [List.length_drop] at hj; omega
    have h1 := hc (d + j) (by omega)
    have h2 : l.getD (d + j) 0 = (l.drop d)[j] := by
      rw [List.getElem_drop]
      simp [List.getD, List.getElem?_eq_getElem hj']
    rw [h2] at h1
    have ha : (⟨b, d, none⟩ : Addr).add j = ⟨b, d + j, none⟩ := by by_cases hj0 : j = 0 <;> simp [Addr.add, hj0]
    rw [ha]
    exact h1)
  rw [List.length_drop, hl] at h
  exact h

set_option maxHeartbeats 4000000 in
set_option maxRecDepth 100000 in
theorem charRef_hex (b len cap : Nat) (l : List UInt8) (hl : l.length = len) (hcap : len ≤ cap) (hcapm : cap ≤ 281474976710656) (w : World) (hS : Sent w)
    (hc : ∀ j, j < len → w.cell? ⟨b, j, none⟩ = some (.int .u8 ((l.getD j 0).toNat : Int))) (h0 : l.getD 0 0 = 35) (hlen : 2 < len) (h1 : l.getD 1 0 = 120) :
    Calls Tryd.prog 10 #[.slice (some ⟨b, 0, none⟩) len cap] w fun e w' => e = .returned (refVal (refOf l)) ∧ Below w.heap.size w w' := by
  have HF : Hid (refOf l = ans true (l.drop 2)) := Lib.hid (refOf_hex (by omega) h0 h1)
  have hc0 : w.cell? ⟨b, 0, none⟩ = some (.int .u8 35) := by have := hc 0 (by omega); rw [h0] at this; exact this
  have hc1 : w.cell? ⟨b, 1, none⟩ = some (.int .u8 120) := by have := hc 1 (by omega); rw [h1] at this; exact this
  clear h1
  have hcv := tail_string b 2 len cap l hl w hc
  obtain ⟨s, hs⟩ : ∃ s : ByteArray, s = ⟨(l.drop 2).toArray⟩ := ⟨_, rfl⟩
  rw [← hs] at hcv
  have hsl : Hid (s.data.toList = l.drop 2) := by rw [hs]; exact Lib.hid rfl
  have hsz : s.size = len - 2 := by rw [Lib.size_eq, hsl.out, List.length_drop, hl]
  have hne : s.size ≠ 0 := by omega
  have hlim : s.size ≤ 281474976710656 := by omega
  have hP := parse_hex s hne hlim w hS
  clear hsz hs hc hl h0
  go_enter Tryd.func10, Tryd.ntmps10
  go_wp2_with fail
  refine hP.mono ?_
  clear hP
  rintro e W1 ⟨hE, hb1⟩
  rcases hE with ⟨n, rfl, hn, hr⟩ | ⟨x, N, rfl, hr⟩
  · cases hx : xml n with
    | true =>
      have HA : Hid (refOf l = some n) := Lib.hid (HF.out.trans (ans_yes (hsl.out ▸ hr) hx))
      have hX := xml_yes hx
      have hle : (n : Int) ≤ 1114111 := by omega
      clear hx hr
      go_wp2_with (go_at_call 13; refine (isChar_yes _ _ hX).mono ?_; rintro e w' ⟨rfl, rfl⟩)
      go_ret2
      exact ⟨refVal_some HA.out, hb1⟩
    | false =>
      have HA : Hid (refOf l = none) := Lib.hid (HF.out.trans (ans_no (hsl.out ▸ hr) hx))
      have hX := xml_no hx
      clear hx hr
      by_cases hbig : n ≤ 2147483647
      · go_wp2_with (go_at_call 13; refine (isChar_no _ _ hX).mono ?_; rintro e w' ⟨rfl, rfl⟩)
        go_ret2
        exact ⟨refVal_none HA.out, hb1⟩
      · have hw : IntKind.i32.wrap (n : Int) = (n : Int) - 4294967296 := by rw [IntKind.wrap_i32]; omega
        clear hX
        go_wp2_with (go_at_call 13; refine (isChar_no _ _ (.inl (by omega))).mono ?_; rintro e w' ⟨rfl, rfl⟩)
        go_ret2
        exact ⟨refVal_none HA.out, hb1⟩
  · have HA : Hid (refOf l = none) := Lib.hid (HF.out.trans (ans_err (hsl.out ▸ hr)))
    clear hr
    go_wp2
    go_ret2
    exact ⟨refVal_none HA.out, hb1⟩

set_option maxHeartbeats 4000000 in
set_option maxRecDepth 100000 in
theorem charRef_two (b len cap : Nat) (l : List UInt8) (hl : l.length = len) (hcap : len ≤ cap) (hcapm : cap ≤ 281474976710656) (w : World) (hS : Sent w)
    (hc : ∀ j, j < len → w.cell? ⟨b, j, none⟩ = some (.int .u8 ((l.getD j 0).toNat : Int))) (h0 : l.getD 0 0 = 35) (hlen1 : 1 < len) (hlen : len ≤ 2) :
    Calls Tryd.prog 10 #[.slice (some ⟨b, 0, none⟩) len cap] w fun e w' => e = .returned (refVal (refOf l)) ∧ Below w.heap.size w w' := by
  have HF : Hid (refOf l = ans false (l.drop 1)) := Lib.hid (refOf_dec (by omega) h0 (by omega))
  have hc0 : w.cell? ⟨b, 0, none⟩ = some (.int .u8 35) := by have := hc 0 (by omega); rw [h0] at this; exact this
  have hcv := tail_string b 1 len cap l hl w hc
  obtain ⟨s, hs⟩ : ∃ s : ByteArray, s = ⟨(l.drop 1).toArray⟩ := ⟨_, rfl⟩
  rw [← hs] at hcv
  have hsl : Hid (s.data.toList = l.drop 1) := by rw [hs]; exact Lib.hid rfl
  have hsz : s.size = len - 1 := by rw [Lib.size_eq, hsl.out, List.length_drop, hl]
  have hne : s.size ≠ 0 := by omega
  have hlim : s.size ≤ 281474976710656 := by omega
  have hP := parse_dec s hne hlim w hS
  clear hsz hs hc hl h0
  go_enter Tryd.func10, Tryd.ntmps10
  go_wp2_with fail
  refine hP.mono ?_
  clear hP
  rintro e W1 ⟨hE, hb1⟩
  rcases hE with ⟨n, rfl, hn, hr⟩ | ⟨x, N, rfl, hr⟩
  · cases hx : xml n with
    | true =>
      have HA : Hid (refOf l = some n) := Lib.hid (HF.out.trans (ans_yes (hsl.out ▸ hr) hx))
      have hX := xml_yes hx
      have hle : (n : Int) ≤ 1114111 := by omega
      clear hx hr
      go_wp2_with (go_at_call 13; refine (isChar_yes _ _ hX).mono ?_; rintro e w' ⟨rfl, rfl⟩)
      go_ret2
      exact ⟨refVal_some HA.out, hb1⟩
    | false =>
      have HA : Hid (refOf l = none) := Lib.hid (HF.out.trans (ans_no (hsl.out ▸ hr) hx))
      have hX := xml_no hx
      clear hx hr
      by_cases hbig : n ≤ 2147483647
      · go_wp2_with (go_at_call 13; refine (isChar_no _ _ hX).mono ?_; rintro e w' ⟨rfl, rfl⟩)
        go_ret2
        exact ⟨refVal_none HA.out, hb1⟩
      · have hw : IntKind.i32.wrap (n : Int) = (n : Int) - 4294967296 := by rw [IntKind.wrap_i32]; omega
        clear hX
        go_wp2_with (go_at_call 13; refine (isChar_no _ _ (.inl (by omega))).mono ?_; rintro e w' ⟨rfl, rfl⟩)
        go_ret2
        exact ⟨refVal_none HA.out, hb1⟩
  · have HA : Hid (refOf l = none) := Lib.hid (HF.out.trans (ans_err (hsl.out ▸ hr)))
    clear hr
    go_wp2
    go_ret2
    exact ⟨refVal_none HA.out, hb1⟩

set_option maxHeartbeats 4000000 in
set_option maxRecDepth 100000 in
theorem charRef_dec (b len cap : Nat) (l : List UInt8) (hl : l.length = len) (hcap : len ≤ cap) (hcapm : cap ≤ 281474976710656) (w : World) (hS : Sent w)
    (hc : ∀ j, j < len → w.cell? ⟨b, j, none⟩ = some (.int .u8 ((l.getD j 0).toNat : Int))) (h0 : l.getD 0 0 = 35) (hlen : 2 < len) (h1 : l.getD 1 0 ≠ 120) :
    Calls Tryd.prog 10 #[.slice (some ⟨b, 0, none⟩) len cap] w fun e w' => e = .returned (refVal (refOf l)) ∧ Below w.heap.size w w' := by
  have HF : Hid (refOf l = ans false (l.drop 1)) := Lib.hid (refOf_dec (by omega) h0 (fun e => h1 e.2))
  have hc0 : w.cell? ⟨b, 0, none⟩ = some (.int .u8 35) := by have := hc 0 (by omega); rw [h0] at this; exact this
  have hc1 := hc 1 (by omega)
  have hn1 : (((l.getD 1 0).toNat : Int) == 120) = false := by
    simp only [beq_eq_false_iff_ne]
    intro e
    exact h1 (UInt8.toNat_inj.1 (show (l.getD 1 0).toNat = (120 : UInt8).toNat from by have : (120 : UInt8).toNat = 120 := rfl; omega))
  generalize (l.getD 1 0).toNat = c1 at hc1 hn1
  clear h1
  have hcv := tail_string b 1 len cap l hl w hc
  obtain ⟨s, hs⟩ : ∃ s : ByteArray, s = ⟨(l.drop 1).toArray⟩ := ⟨_, rfl⟩
  rw [← hs] at hcv
  have hsl : Hid (s.data.toList = l.drop 1) := by rw [hs]; exact Lib.hid rfl
  have hsz : s.size = len - 1 := by rw [Lib.size_eq, hsl.out, List.length_drop, hl]
  have hne : s.size ≠ 0 := by omega
  have hlim : s.size ≤ 281474976710656 := by omega
  have hP := parse_dec s hne hlim w hS
  clear hsz hs hc hl h0
  go_enter Tryd.func10, Tryd.ntmps10
  go_wp2_with fail
  refine hP.mono ?_
  clear hP
  rintro e W1 ⟨hE, hb1⟩
  rcases hE with ⟨n, rfl, hn, hr⟩ | ⟨x, N, rfl, hr⟩
  · cases hx : xml n with
    | true =>
      have HA : Hid (refOf l = some n) := Lib.hid (HF.out.trans (ans_yes (hsl.out ▸ hr) hx))
      have hX := xml_yes hx
      have hle : (n : Int) ≤ 1114111 := by omega
      clear hx hr
      go_wp2_with (go_at_call 13; refine (isChar_yes _ _ hX).mono ?_; rintro e w' ⟨rfl, rfl⟩)
      go_ret2
      exact ⟨refVal_some HA.out, hb1⟩
    | false =>
      have HA : Hid (refOf l = none) := Lib.hid (HF.out.trans (ans_no (hsl.out ▸ hr) hx))
      have hX := xml_no hx
      clear hx hr
      by_cases hbig : n ≤ 2147483647
      · go_wp2_with (go_at_call 13; refine (isChar_no _ _ hX).mono ?_; rintro e w' ⟨rfl, rfl⟩)
        go_ret2
        exact ⟨refVal_none HA.out, hb1⟩
      · have hw : IntKind.i32.wrap (n : Int) = (n : Int) - 4294967296 := by rw [IntKind.wrap_i32]; omega
        clear hX
        go_wp2_with (go_at_call 13; refine (isChar_no _ _ (.inl (by omega))).mono ?_; rintro e w' ⟨rfl, rfl⟩)
        go_ret2
        exact ⟨refVal_none HA.out, hb1⟩
  · have HA : Hid (refOf l = none) := Lib.hid (HF.out.trans (ans_err (hsl.out ▸ hr)))
    clear hr
    go_wp2
    go_ret2
    exact ⟨refVal_none HA.out, hb1⟩

/-- charRef at a row that is no reference: shorter than two bytes. -/
theorem charRef_short (ad : Option Addr) (len cap : Nat) (l : List UInt8) (hl : l.length = len) (hlen : len ≤ 1) (w : World) :
    Calls Tryd.prog 10 #[.slice ad len cap] w fun e w' => e = .returned (refVal (refOf l)) ∧ Below w.heap.size w w' := by
  have HF : Hid (refOf l = none) := Lib.hid (refOf_no (by omega))
  clear hl
  go_enter Tryd.func10, Tryd.ntmps10
  go_wp2
  go_ret2
  exact ⟨refVal_none HF.out, Below.refl _ _⟩

/-- charRef at a row whose first byte is not the mark. -/
theorem charRef_other (b len cap : Nat) (l : List UInt8) (hl : l.length = len) (hlen : 1 < len) (hlm : len ≤ 281474976710656) (w : World)
    (hc : ∀ j, j < len → w.cell? ⟨b, j, none⟩ = some (.int .u8 ((l.getD j 0).toNat : Int))) (h0 : l.getD 0 0 ≠ 35) :
    Calls Tryd.prog 10 #[.slice (some ⟨b, 0, none⟩) len cap] w fun e w' => e = .returned (refVal (refOf l)) ∧ Below w.heap.size w w' := by
  have HF : Hid (refOf l = none) := Lib.hid (refOf_no (fun e => h0 e.2))
  have hc0 := hc 0 (by omega)
  have hn0 : (((l.getD 0 0).toNat : Int) == 35) = false := by
    simp only [beq_eq_false_iff_ne]
    intro e
    exact h0 (UInt8.toNat_inj.1 (show (l.getD 0 0).toNat = (35 : UInt8).toNat from by have : (35 : UInt8).toNat = 35 := rfl; omega))
  generalize (l.getD 0 0).toNat = c0 at hc0 hn0
  clear h0 hl hc
  by_cases h2 : 2 < len
  · go_enter Tryd.func10, Tryd.ntmps10
    go_wp2
    go_ret2
    exact ⟨refVal_none HF.out, Below.refl _ _⟩
  · go_enter Tryd.func10, Tryd.ntmps10
    go_wp2
    go_ret2
    exact ⟨refVal_none HF.out, Below.refl _ _⟩

/-- What is asked of a row of bytes that is handed to charRef: its cells are the bytes l; one shorter than two bytes may lie anywhere. -/
def Row (w : World) (v : Value) (l : List UInt8) : Prop :=
  ∃ (ad : Option Addr) (cap : Nat), v = .slice ad l.length cap ∧ l.length ≤ cap ∧ cap ≤ 281474976710656 ∧
    (1 < l.length → ∃ b, ad = some ⟨b, 0, none⟩ ∧ ∀ j, j < l.length → w.cell? ⟨b, j, none⟩ = some (.int .u8 ((l.getD j 0).toNat : Int)))

/-- charRef: the whole answer. -/
theorem charRef_any (v : Value) (l : List UInt8) (w : World) (hS : Sent w) (h : Row w v l) :
    Calls Tryd.prog 10 #[v] w fun e w' => e = .returned (refVal (refOf l)) ∧ Below w.heap.size w w' := by
  obtain ⟨ad, cap, rfl, hcap, hm, hr⟩ := h
  by_cases h1 : 1 < l.length
  · obtain ⟨b, rfl, hc⟩ := hr h1
    by_cases h0 : l.getD 0 0 = 35
    · by_cases h2 : 2 < l.length
      · by_cases hx : l.getD 1 0 = 120
        · exact charRef_hex b _ cap l rfl hcap hm w hS hc h0 h2 hx
        · exact charRef_dec b _ cap l rfl hcap hm w hS hc h0 h2 hx
      · exact charRef_two b _ cap l rfl hcap hm w hS hc h0 h1 (by omega)
    · exact charRef_other b _ cap l rfl h1 (by omega) w hc h0
  · exact charRef_short ad _ cap l rfl (by omega) w

/-- ZZCharRef hands charRef's answer on. -/
theorem zzCharRef (v : Value) (l : List UInt8) (w : World) (hS : Sent w) (h : Row w v l) :
    Calls Tryd.prog 7 #[v] w fun e w' => e = .returned (refVal (refOf l)) ∧ Below w.heap.size w w' := by
  have hc := charRef_any v l w hS h
  obtain ⟨ad, cap, rfl, _, _, _⟩ := h
  unfold refVal at hc ⊢
  generalize (((refOf l).getD 0 : Nat) : Int) = x at hc ⊢
  generalize (refOf l).isSome = y at hc ⊢
  go_enter Tryd.func7, Tryd.ntmps7
  go_wp2_with fail
  refine hc.mono ?_
  rintro e w' ⟨rfl, hb⟩
  go_wp2
  go_ret2
  exact ⟨rfl, hb⟩
end Go.Proofs.Qxb6603688aDoor.Walks
