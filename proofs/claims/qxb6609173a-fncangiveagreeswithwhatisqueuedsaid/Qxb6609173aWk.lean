import Derived.Test.Qxb6609173aRows
import Derived.WalkKit
import Derived.ProofKit
import Derived.OpenShut
import Derived.ShutString
import Derived.Deep.OwnRows
import Derived.Outline
namespace Go.Proofs.Qxb6609173a.CG
open Go.RowKit Go.Deep

/-- ringSlots. -/
theorem ringSlots_any (q : Int) (w : World) (h0 : 0 ≤ q) (h1 : q ≤ 65536) :
    Calls Try.prog 5 #[.int .i64 q] w fun e w' => ∃ s : Int, e = .returned (.int .i64 s) ∧ 1 ≤ s ∧ s ≤ 131072 ∧ w' = w := by
  go_enter Try.func5, Try.ntmps5
  go_wp2
  go_loop [3] (fun t => ∃ s : Int, 1 ≤ s ∧ s ≤ 131072 ∧ t = .int .i64 s) (fun t => (65536 - intOf t).toNat)
  case atStart => exact ⟨1, by omega, by omega, rfl⟩
  case round =>
    obtain ⟨s, h2, h3, rfl⟩ := hrel
    by_cases hlt : s < q
    · go_wp2
      go_round
      case rel => exact ⟨s * 2, by omega, by omega, by go_num⟩
      case measure => simp [intOf]; omega
    · go_wp2
      go_ret
      exact ⟨s, rfl, h2, h3, rfl⟩

/-- ZZnewG. -/
theorem newG_any (i p : Int) (w : World) :
    Calls Try.prog 8 #[.int .i64 i, .int .i64 p] w fun e w' => e = .returned (.pointer (some ⟨w.heap.size, 0, none⟩)) ∧ ∃ c, w' = w.alloc (.cells c 37) := by
  go_enter Try.func8, Try.ntmps8
  go_wp2
  go_ret
  exact ⟨rfl, _, rfl⟩

theorem newProc_any (ao : Option Addr) (l c : Nat) (nx : Option Addr) (h n : Int) (w : World) :
    Calls Try.prog 9 #[.slice ao l c, .int .i64 h, .int .i64 n, .pointer nx] w fun e w' => e = .returned (.pointer (some ⟨w.heap.size, 0, none⟩)) ∧ ∃ c : Array Value, c[3]? = some (.pointer nx) ∧ c[6]? = some (.int .i64 n) ∧ w' = w.alloc (.cells c 46) := by
  go_enter Try.func9, Try.ntmps9
  go_wp2

  go_ret
  exact ⟨rfl, _, rfl, rfl, rfl⟩

theorem len_any (b o : Nat) (n : Int) (w : World) (hc : w.cell? ⟨b, o + 2, none⟩ = some (.int .i64 n)) :
    Calls Try.prog 12 #[.pointer (some ⟨b, o, none⟩)] w fun e w' => e = .returned (.int .i64 n) ∧ w' = w := by
  go_enter Try.func12, Try.ntmps12
  go_wp2
  go_ret
  exact ⟨rfl, rfl⟩

theorem canGive_any (b : Nat) (n : Int) (nx : Option Addr) (last : Bool) (w : World) (hn : w.cell? ⟨b, 6, none⟩ = some (.int .i64 n)) (hx : w.cell? ⟨b, 3, none⟩ = some (.pointer nx)) :
    Calls Try.prog 6 #[.pointer (some ⟨b, 0, none⟩), .bool last] w fun e w' => e = .returned (.bool (decide (0 < n) || (last && nx.isSome))) ∧ w' = w := by
  have hl := len_any b 4 n w hn
  by_cases h : 0 < n
  · go_enter Try.func6, Try.ntmps6
    go_wp2_with (first | (go_at_call 12; refine hl.mono ?_; rintro e w' ⟨rfl, rfl⟩) | go_in)

    go_ret
    exact ⟨by simp [h], rfl⟩
  · cases last <;> cases nx
    all_goals
      go_enter Try.func6, Try.ntmps6
      go_wp2_with (first | (go_at_call 12; refine hl.mono ?_; rintro e w' ⟨rfl, rfl⟩) | go_in)

      go_ret
      exact ⟨by simp, rfl⟩

theorem hasQueued_any (b : Nat) (n : Int) (nx : Option Addr) (w : World) (hn : w.cell? ⟨b, 6, none⟩ = some (.int .i64 n)) (hx : w.cell? ⟨b, 3, none⟩ = some (.pointer nx)) :
    Calls Try.prog 7 #[.pointer (some ⟨b, 0, none⟩)] w fun e w' => e = .returned (.bool (decide (0 < n) || nx.isSome)) ∧ w' = w := by
  have hl := len_any b 4 n w hn
  by_cases h : 0 < n <;> cases nx
  all_goals
    go_enter Try.func7, Try.ntmps7
    go_wp2_with (first | (go_at_call 12; refine hl.mono ?_; rintro e w' ⟨rfl, rfl⟩) | go_in)

    go_ret
    exact ⟨by simp [h], rfl⟩
end Go.Proofs.Qxb6609173a.CG
