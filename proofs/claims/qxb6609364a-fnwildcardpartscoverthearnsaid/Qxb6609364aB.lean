import Derived.Test.Qxb6609364aA
namespace Go.Proofs.Qxb6609364a.W
open Go.RowKit Go.Deep

/-- arnPattern, wildcard and part as values. -/
def arnV (px un : Bool) (fi : Int) (s : ByteArray) (pa : Option Addr) (pl pc : Nat) : Value := .agg #[.bool px, .bool un, .int .i8 fi, .string s, .slice pa pl pc]
def wildL (f p : Bool) (t : ByteArray) (c : Option Addr) : List Value := [.bool f, .bool p, .string t, .pointer c]
def partL (f p : Bool) (t : ByteArray) (c : Option Addr) (sl : Int) : List Value := [.bool f, .bool p, .string t, .pointer c, .int .i64 sl]

theorem parts_any (px un : Bool) (fi : Int) (s : ByteArray) (pa : Option Addr) (pl pc : Nat) (w : World) :
    Calls Try.prog 7 #[.agg #[.bool px, .bool un, .int .i8 fi, .string s, .slice pa pl pc]] w fun e w' => e = .returned (.slice pa pl pc) ∧ w' = w.alloc (.cells #[.bool px, .bool un, .int .i8 fi, .string s, .slice pa pl pc] 30) := by
  go_enter Try.func7, Try.ntmps7
  go_wp2
  go_ret
  exact ⟨rfl, rfl⟩

theorem compiled_any (f p : Bool) (t : ByteArray) (c : Option Addr) (w : World) :
    Calls Try.prog 10 #[.agg #[.bool f, .bool p, .string t, .pointer c]] w fun e w' => e = .returned (.pointer c) ∧ w' = w.alloc (.cells #[.bool f, .bool p, .string t, .pointer c] 39) := by
  go_enter Try.func10, Try.ntmps10
  go_wp2
  go_ret
  exact ⟨rfl, rfl⟩

theorem fields_any (f p : Bool) (t : ByteArray) (c : Option Addr) (sl : Int) (w : World) :
    Calls Try.prog 9 #[.agg #[.bool f, .bool p, .string t, .pointer c, .int .i64 sl]] w fun e w' => e = .returned (.tuple #[.bool f, .bool p, .string t, .pointer c, .int .i64 sl]) ∧ ∃ n, w' = (w.alloc (.cells #[.bool f, .bool p, .string t, .pointer c, .int .i64 sl] 41)).drewN n := by
  go_enter Try.func9, Try.ntmps9
  go_wp2
  go_quiet (fail)
  go_wp2
  exact bodyPost_ret (v := .tuple #[.bool f, .bool p, .string t, .pointer c, .int .i64 sl]) (by simp [results, Try.results9, go_sem]) rfl ⟨rfl, _, rfl⟩

/-- The slot of part i. -/
def slotOf (fi : Int) (pl : Nat) (i : Nat) : Int := if i + 1 = pl ∧ fi + i < 5 then 6 + (fi + i) else fi + i

theorem slot_any (px un : Bool) (fi : Int) (s : ByteArray) (pa : Option Addr) (pl pc : Nat) (i : Nat) (w : World) (h0 : 0 ≤ fi) (h1 : fi ≤ 127) (hi : i < pl) (hp : pl ≤ 6) :
    Calls Try.prog 12 #[.agg #[.bool px, .bool un, .int .i8 fi, .string s, .slice pa pl pc], .int .i64 i] w fun e w' => e = .returned (.int .i64 (slotOf fi pl i)) ∧ ∃ c, w' = w.alloc (.cells c 30) := by
  by_cases hl : i + 1 = pl
  · subst hl
    by_cases hj : fi + i < 5
    · have e1 : slotOf fi (i + 1) i = 6 + (fi + i) := by simp [slotOf, hj]
      rw [e1]
      go_enter Try.func12, Try.ntmps12
      go_wp2
      go_ret
      exact ⟨rfl, _, rfl⟩
    · have e1 : slotOf fi (i + 1) i = fi + i := by simp [slotOf, hj]
      rw [e1]
      go_enter Try.func12, Try.ntmps12
      go_wp2
      go_ret
      exact ⟨rfl, _, rfl⟩
  · have e1 : slotOf fi pl i = fi + i := by simp [slotOf, hl]
    rw [e1]
    have hb : ((i : Int) == (pl : Int) - 1) = false := by simp; omega
    go_enter Try.func12, Try.ntmps12
    go_wp2
    go_ret
    exact ⟨rfl, _, rfl⟩
end Go.Proofs.Qxb6609364a.W
