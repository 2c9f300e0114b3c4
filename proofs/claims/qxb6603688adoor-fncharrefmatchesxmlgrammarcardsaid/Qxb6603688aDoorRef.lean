/-
  SEAT b6603688aD: strconv.ParseUint at bases 10 and 16, isChar, charRef, ZZCharRef: contracts over this dump.
-/
import Derived.Test.Qxb6603688aDoorInner
import Derived.Test.Qxb6603688aDoorErr
import Derived.Laws.IdiomStrings
import Derived.Handy
namespace Go.Proofs.Qxb6603688aDoor.Walks
open Go.RowKit Plain

/-- How the public ParseUint ends. -/
def PEnds (hex : Bool) (l : List UInt8) (e : Ending) : Prop :=
  (∃ n : Nat, e = .returned (.tuple #[.int .u64 n, .nilIface]) ∧ n ≤ 4294967295 ∧ run hex 0 l = some n) ∨
  (∃ (x : Int) (N : Nat), e = .returned (.tuple #[.int .u64 x, .iface 43 (.pointer (some ⟨N, 0, none⟩))]) ∧ ∀ n, run hex 0 l = some n → 4294967296 ≤ n)

/-- The two sentinels' cells. -/
structure Sent (w : World) : Prop where
  s0 : ∃ te pe, w.cell? ⟨0, 0, none⟩ = some (.iface te pe)
  s1 : ∃ te pe, w.cell? ⟨1, 0, none⟩ = some (.iface te pe)

theorem Sent.on {w w' : World} (h : Sent w) (hb : Below w.heap.size w w') : Sent w' := by
  obtain ⟨⟨t0, p0, h0⟩, ⟨t1, p1, h1⟩⟩ := h
  exact ⟨⟨t0, p0, (hb.cell (show (⟨0, 0, none⟩ : Addr).block < w.heap.size from Lib.lt_of_cell h0)).trans h0⟩, ⟨t1, p1, (hb.cell (show (⟨1, 0, none⟩ : Addr).block < w.heap.size from Lib.lt_of_cell h1)).trans h1⟩⟩

set_option maxHeartbeats 4000000 in
set_option maxRecDepth 100000 in
theorem parse_of (hex : Bool) (B : Int) (s : ByteArray) (hlim : s.size ≤ 281474976710656) (w : World) (hS : Sent w)
    (hI : Calls Tryd.prog 14 #[.string s, .int .i64 B, .int .i64 32] w fun e w' => Ends hex s.data.toList e ∧ w' = Lib.bytesWorld w 5 s) :
    Calls Tryd.prog 12 #[.string s, .int .i64 B, .int .i64 32] w fun e w' => PEnds hex s.data.toList e ∧ Below w.heap.size w w' := by
  go_enter Tryd.func12, Tryd.ntmps12
  go_wp2_with fail
  refine hI.mono ?_
  rintro e W1 ⟨hE, hW⟩
  have hb1 : Below w.heap.size w W1 := by rw [hW]; exact Lib.bytesWorld_below _ _ _
  have hS1 := hS.on hb1
  clear hW hI
  rcases hE with ⟨n, rfl, hn, hr⟩ | ⟨x, q, rfl, hq, hr⟩
  · have HR : Hid (run hex 0 s.data.toList = some n) := hr
    clear hr
    go_wp2
    go_ret2
    exact ⟨.inl ⟨n, rfl, hn, HR.out⟩, hb1⟩
  · have HR : Hid (∀ n, run hex 0 s.data.toList = some n → 4294967296 ≤ n) := hr
    clear hr
    obtain ⟨⟨t0, p0, h0⟩, ⟨t1, p1, h1⟩⟩ := hS1
    rcases hq with rfl | rfl
    · go_wp2_with fail
      refine (toErr1 _ s B 32 t1 p1 W1 hlim h1).mono ?_
      rintro e W2 ⟨N, rfl, hb2⟩
      go_wp2
      go_ret2
      exact ⟨.inr ⟨x, N, rfl, HR.out⟩, hb1.trans (hb2.mono hb1.size)⟩
    · go_wp2_with fail
      refine (toErr2 _ s B 32 t0 p0 W1 hlim h0).mono ?_
      rintro e W2 ⟨N, rfl, hb2⟩
      go_wp2
      go_ret2
      exact ⟨.inr ⟨x, N, rfl, HR.out⟩, hb1.trans (hb2.mono hb1.size)⟩

theorem parse_dec (s : ByteArray) (hne : s.size ≠ 0) (hlim : s.size ≤ 281474976710656) (w : World) (hS : Sent w) :
    Calls Tryd.prog 12 #[.string s, .int .i64 10, .int .i64 32] w fun e w' => PEnds false s.data.toList e ∧ Below w.heap.size w w' :=
  parse_of false 10 s hlim w hS (inner_dec s hne (by omega) w)

theorem parse_hex (s : ByteArray) (hne : s.size ≠ 0) (hlim : s.size ≤ 281474976710656) (w : World) (hS : Sent w) :
    Calls Tryd.prog 12 #[.string s, .int .i64 16, .int .i64 32] w fun e w' => PEnds true s.data.toList e ∧ Below w.heap.size w w' :=
  parse_of true 16 s hlim w hS (inner_hex s hne (by omega) w)

/-- isChar, yes. -/
theorem isChar_yes (r : Int) (w : World) (h : r = 9 ∨ r = 10 ∨ r = 13 ∨ (32 ≤ r ∧ r ≤ 55295) ∨ (57344 ≤ r ∧ r ≤ 65533) ∨ (65536 ≤ r ∧ r ≤ 1114111)) :
    Calls Tryd.prog 13 #[.int .i32 r] w fun e w' => e = .returned (.bool true) ∧ w' = w := by
  rcases h with rfl | rfl | rfl | ⟨h, h'⟩ | ⟨h, h'⟩ | ⟨h, h'⟩
  all_goals (
    go_enter Tryd.func13, Tryd.ntmps13
    go_wp2
    go_ret
    exact ⟨rfl, rfl⟩)

/-- isChar, no. -/
theorem isChar_no (r : Int) (w : World) (h : r < 9 ∨ (11 ≤ r ∧ r ≤ 12) ∨ (14 ≤ r ∧ r ≤ 31) ∨ (55296 ≤ r ∧ r ≤ 57343) ∨ (65534 ≤ r ∧ r ≤ 65535) ∨ 1114112 ≤ r) :
    Calls Tryd.prog 13 #[.int .i32 r] w fun e w' => e = .returned (.bool false) ∧ w' = w := by
  rcases h with h | ⟨h, h'⟩ | ⟨h, h'⟩ | ⟨h, h'⟩ | ⟨h, h'⟩ | h
  all_goals (
    have e9 : (r == 9) = false := by simp; omega
    have e10 : (r == 10) = false := by simp; omega
    have e13 : (r == 13) = false := by simp; omega
    go_enter Tryd.func13, Tryd.ntmps13
    go_wp2
    go_ret
    exact ⟨by first | rfl | (simp; omega), rfl⟩)
end Go.Proofs.Qxb6603688aDoor.Walks
