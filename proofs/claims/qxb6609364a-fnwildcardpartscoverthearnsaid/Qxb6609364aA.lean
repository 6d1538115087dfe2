import Derived.Test.Qxb6609364aRows
import Derived.WalkKit
import Derived.WalkSpells
import Derived.Outline
import Derived.Deep.QuietTactic
import Derived.BigQuiet
import Derived.Deep.Slices
namespace Go.Proofs.Qxb6609364a.W
open Go.RowKit Go.Deep

/-- What a walk is told of a slice that came in: at every index below its length there is a cell, and it holds 'f i'. -/
def Cells (w : World) (a : Option Addr) (n : Nat) (f : Nat → Value) : Prop :=
  ∀ i, i < n → ∃ b off, a = some ⟨b, off, none⟩ ∧ w.cell? ⟨b, off + i, none⟩ = some (f i)

/-- A Boolean comes back. -/
def IsB (e : Ending) : Prop := ∃ r, e = .returned (.bool r)
theorem isB (r : Bool) : IsB (.returned (.bool r)) := ⟨r, rfl⟩

set_option maxHeartbeats 2000000 in
set_option maxRecDepth 100000 in
theorem bytes_any (w : World) (a0 a1 : Bool) (a2 : Int) (s : ByteArray) (fa pa ta sa : Option Addr) (fl fc pl pc tl tc sl sc : Nat) (T : Nat → ByteArray) (SA : Nat → Option Addr) (SL SC : Nat → Nat) (A2 : Nat → Nat → Option Addr) (L2 C2 : Nat → Nat → Nat)
    (HT : Cells w ta tl (fun i => .string (T i))) (HS : Cells w sa sl (fun i => .slice (SA i) (SL i) (SC i)))
    (HI : ∀ i, i < sl → Cells w (SA i) (SL i) (fun j => .slice (A2 i j) (L2 i j) (C2 i j))) (mt : tl ≤ 9223372036854775807) (ms : sl ≤ 9223372036854775807) (mi : ∀ i, i < sl → SL i ≤ 9223372036854775807) :
    Calls Try.prog 4 #[.bool a0, .bool a1, .int .i8 a2, .string s, .slice fa fl fc, .slice pa pl pc, .slice ta tl tc, .slice sa sl sc] w fun e w' => IsB e ∧ w' = w := by
  have HT' : Hid (Cells w ta tl (fun i => .string (T i))) := HT
  have HS' : Hid (Cells w sa sl (fun i => .slice (SA i) (SL i) (SC i))) := HS
  have HI' : Hid (∀ i, i < sl → Cells w (SA i) (SL i) (fun j => .slice (A2 i j) (L2 i j) (C2 i j))) := HI
  have mi' : Hid (∀ i, i < sl → SL i ≤ 9223372036854775807) := mi
  clear HT HS HI mi
  go_enter Try.func4, Try.ntmps4
  go_wp2
  all_goals try (go_ret; exact ⟨isB _, rfl⟩)
  go_loop [17, 18] (fun t i => ∃ (x : Int) (k : Nat), k ≤ tl ∧ i = .int .i64 k ∧ t = .int .i64 x) (fun _ i => tl - (intOf i).toNat)
  case atStart => exact ⟨_, 0, Nat.zero_le _, rfl, rfl⟩
  case round =>
    obtain ⟨x, k, hk, rfl, rfl⟩ := hrel
    by_cases hlt : k < tl
    · obtain ⟨b, off, hab, hc⟩ := HT'.out k hlt
      subst hab
      go_wp2
      all_goals try (go_ret; exact ⟨isB _, rfl⟩)
      go_round
      case rel => exact ⟨_, k + 1, by omega, by go_num, rfl⟩
      case measure => simp [intOf]; omega
    · go_wp2
      all_goals try (go_ret; exact ⟨isB _, rfl⟩)
      go_loop [17, 19, 20] (fun t i _ => ∃ (x : Int) (k : Nat), k ≤ sl ∧ i = .int .i64 k ∧ t = .int .i64 x) (fun _ i _ => sl - (intOf i).toNat)
      case atStart => exact ⟨_, 0, Nat.zero_le _, rfl, rfl⟩
      case round =>
        obtain ⟨y, j, hj, rfl, rfl⟩ := hrel
        by_cases hlt2 : j < sl
        · obtain ⟨b, off, hab, hc⟩ := HS'.out j hlt2
          subst hab
          have mj := mi'.out j hlt2
          go_wp2
          all_goals try (go_ret; exact ⟨isB _, rfl⟩)
          go_loop [17, 20] (fun t i => ∃ (x : Int) (k : Nat), k ≤ SL j ∧ i = .int .i64 k ∧ t = .int .i64 x) (fun _ i => SL j - (intOf i).toNat)
          case atStart => exact ⟨_, 0, Nat.zero_le _, rfl, rfl⟩
          case round =>
            obtain ⟨z, i, hi, rfl, rfl⟩ := hrel
            by_cases hlt3 : i < SL j
            · obtain ⟨b2, off2, hab2, hc2⟩ := HI'.out j hlt2 i hlt3
              have Hab2 : Hid (SA j = some { block := b2, off := off2 }) := hab2
              rw [hab2] at hc
              clear hab2
              go_wp2
              all_goals try (go_ret; exact ⟨isB _, rfl⟩)
              go_round
              case rel => exact ⟨_, i + 1, by omega, by go_num, rfl⟩
              case measure => simp [intOf]; omega
            · obtain rfl : i = SL j := by omega
              clear hi hlt3
              go_wp2
              go_round
              case rel => exact ⟨_, j + 1, by omega, by go_num, rfl⟩
              case measure => simp [intOf]; omega
        · go_wp2
          go_ret
          exact ⟨isB _, rfl⟩

/-- What 'not too big' tells. -/
def Small (fl pl tl sl : Nat) (SL : Nat → Nat) : Prop := fl ≤ 65536 ∧ pl ≤ 65536 ∧ tl ≤ 65536 ∧ sl ≤ 65536 ∧ ∀ i, i < sl → SL i ≤ 65536
def BigR (S : Prop) (e : Ending) : Prop := ∃ r, e = .returned (.bool r) ∧ (r = false → S)
theorem bigT (S : Prop) : BigR S (.returned (.bool true)) := ⟨true, rfl, fun h => by simp at h⟩
theorem bigS {S : Prop} (h : S) (r : Bool) : BigR S (.returned (.bool r)) := ⟨r, rfl, fun _ => h⟩

set_option maxHeartbeats 2000000 in
set_option maxRecDepth 100000 in
theorem tooBig_any (w : World) (s : ByteArray) (fa pa ta sa : Option Addr) (fl fc pl pc tl tc sl sc : Nat) (T : Nat → ByteArray) (SA : Nat → Option Addr) (SL SC : Nat → Nat) (A2 : Nat → Nat → Option Addr) (L2 C2 : Nat → Nat → Nat)
    (HT : Cells w ta tl (fun i => .string (T i))) (HS : Cells w sa sl (fun i => .slice (SA i) (SL i) (SC i)))
    (HI : ∀ i, i < sl → Cells w (SA i) (SL i) (fun j => .slice (A2 i j) (L2 i j) (C2 i j))) :
    Calls Try.prog 5 #[.string s, .slice fa fl fc, .slice pa pl pc, .slice ta tl tc, .slice sa sl sc] w fun e w' => BigR (Small fl pl tl sl SL) e ∧ w' = w := by
  have HT' : Hid (Cells w ta tl (fun i => .string (T i))) := HT
  have HS' : Hid (Cells w sa sl (fun i => .slice (SA i) (SL i) (SC i))) := HS
  have HI' : Hid (∀ i, i < sl → Cells w (SA i) (SL i) (fun j => .slice (A2 i j) (L2 i j) (C2 i j))) := HI
  clear HT HS HI
  by_cases g1 : (1048576 : Int) < (s.size : Int)
  · go_enter Try.func5, Try.ntmps5
    go_wp2
    go_ret
    exact ⟨bigT _, rfl⟩
  by_cases g2 : (65536 : Int) < (fl : Int)
  · go_enter Try.func5, Try.ntmps5
    go_wp2
    go_ret
    exact ⟨bigT _, rfl⟩
  by_cases g3 : (65536 : Int) < (pl : Int)
  · go_enter Try.func5, Try.ntmps5
    go_wp2
    go_ret
    exact ⟨bigT _, rfl⟩
  by_cases g4 : (65536 : Int) < (tl : Int)
  · go_enter Try.func5, Try.ntmps5
    go_wp2
    go_ret
    exact ⟨bigT _, rfl⟩
  by_cases g5 : (65536 : Int) < (sl : Int)
  · go_enter Try.func5, Try.ntmps5
    go_wp2
    go_ret
    exact ⟨bigT _, rfl⟩
  go_enter Try.func5, Try.ntmps5
  go_wp2
  go_loop [11, 12] (fun t i => ∃ (x : Int) (k : Nat), k ≤ tl ∧ i = .int .i64 k ∧ t = .int .i64 x) (fun _ i => tl - (intOf i).toNat)
  case atStart => exact ⟨_, 0, Nat.zero_le _, rfl, rfl⟩
  case round =>
    obtain ⟨x, k, hk, rfl, rfl⟩ := hrel
    by_cases hlt : k < tl
    · obtain ⟨b, off, hab, hc⟩ := HT'.out k hlt
      subst hab
      go_wp2
      all_goals try (go_ret; exact ⟨bigT _, rfl⟩)
      go_round
      case rel => exact ⟨_, k + 1, by omega, by go_num, rfl⟩
      case measure => simp [intOf]; omega
    · obtain rfl : k = tl := by omega
      clear hk hlt
      go_wp2
      go_loop [11, 13, 14] (fun t i _ => ∃ (x : Int) (k : Nat), k ≤ sl ∧ i = .int .i64 k ∧ t = .int .i64 x ∧ Hid (∀ i, i < k → SL i ≤ 65536)) (fun _ i _ => sl - (intOf i).toNat)
      case atStart => exact ⟨_, 0, Nat.zero_le _, rfl, rfl, fun i h => absurd h (Nat.not_lt_zero _)⟩
      case round =>
        obtain ⟨y, j, hj, rfl, rfl, hsm⟩ := hrel
        by_cases hlt2 : j < sl
        · obtain ⟨b, off, hab, hc⟩ := HS'.out j hlt2
          subst hab
          by_cases hbig : (65536 : Int) < (SL j : Int)
          · go_wp2
            go_ret
            exact ⟨bigT _, rfl⟩
          have hsm2 : Hid (∀ i, i < j + 1 → SL i ≤ 65536) := fun i h => by
            rcases Nat.lt_or_eq_of_le (Nat.le_of_lt_succ h) with h | rfl
            · exact hsm.out i h
            · omega
          go_wp2
          all_goals try (go_ret; exact ⟨bigT _, rfl⟩)
          go_loop [11, 14] (fun t i => ∃ (x : Int) (k : Nat), k ≤ SL j ∧ i = .int .i64 k ∧ t = .int .i64 x) (fun _ i => SL j - (intOf i).toNat)
          case atStart => exact ⟨_, 0, Nat.zero_le _, rfl, rfl⟩
          case round =>
            obtain ⟨z, i, hi, rfl, rfl⟩ := hrel
            by_cases hlt3 : i < SL j
            · obtain ⟨b2, off2, hab2, hc2⟩ := HI'.out j hlt2 i hlt3
              rw [hab2] at hc
              clear hab2
              go_wp2
              all_goals try (go_ret; exact ⟨bigT _, rfl⟩)
              go_round
              case rel => exact ⟨_, i + 1, by omega, by go_num, rfl⟩
              case measure => simp [intOf]; omega
            · obtain rfl : i = SL j := by omega
              clear hi hlt3
              go_wp2
              go_round
              case rel => exact ⟨_, j + 1, by omega, by go_num, rfl, hsm2⟩
              case measure => simp [intOf]; omega
        · obtain rfl : j = sl := by omega
          have hS : Hid (Small fl pl k j SL) := ⟨by omega, by omega, by omega, by omega, hsm.out⟩
          clear hj hlt2
          go_wp2
          all_goals go_ret
          all_goals exact ⟨bigS hS.out _, rfl⟩
end Go.Proofs.Qxb6609364a.W
