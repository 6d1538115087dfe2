import Derived.Test.Qxb6609382aD
import Derived.Deep.DeepCutAuto
namespace Go.Proofs.Qxb6609382a.W
open Go.RowKit Go.Deep
attribute [local go_sem] run_store_float

/-- The code from region n on. -/
def fromRegion (n : Nat) : Code → Option Code
  | .seq (.region id ops d) b => if id = n then some (.seq (.region id ops d) b) else fromRegion n b
  | .seq (.seq (.region id ops d) c) b => if id = n then some (.seq (.seq (.region id ops d) c) b) else match fromRegion n c with
    | some x => some x
    | none => fromRegion n b
  | .seq a b => match fromRegion n a with
    | some c => some c
    | none => fromRegion n b
  | .block _ c => fromRegion n c
  | .scope c => fromRegion n c
  | _ => none

theorem append_at_left {xs ys : List Value} {j : Nat} {u : Value} (h : xs[j]? = some u) : (xs ++ ys)[j]? = some u := by
  rw [List.getElem?_append_left]
  · exact h
  · rcases Nat.lt_or_ge j xs.length with h' | h'
    · exact h'
    · rw [List.getElem?_eq_none h'] at h; cases h

theorem places_right (PR PD SR SD : Nat → Nat) (n K j i : Nat) {u : Value} (hj : j < K) (hi : i < 2) (hu : ([.float .f64 (SR j), .float .f64 (SD j)] : List Value)[i]? = some u) : (placesL PR PD n ++ placesL SR SD K)[(n + j) * 2 + i]? = some u := by
  rw [List.getElem?_append_right (by rw [placesL_len]; omega), placesL_len, show (n + j) * 2 + i - n * 2 = j * 2 + i by omega, placesL_at _ _ _ _ _ hj hi]
  exact hu

set_option maxHeartbeats 4000000 in
set_option maxRecDepth 100000 in
theorem restE14 (w0 w3 : World) (pa sa oa : Option Addr) (n m pc sc oc K : Nat) (PR PD SR SD : Nat → Nat)
    (HO : Hid (w3.ownsRow 0 39 2 (.slice oa (n + K) oc) (n + K) (placesL PR PD n ++ placesL SR SD K))) (HP : Hid (Pairs w3 pa n PR PD)) (HS : Hid (Pairs w3 sa m SR SD)) (hKm : K ≤ m) (HB : Hid (Below w0.heap.size w0 w3)) (hn : n ≤ 65536) (hm : m ≤ 65536)
    (u2 u3 u4 u9 u10 u11 u12 u13 u14 u15 u16 u17 u18 u19 u20 u21 u22 u23 u24 u25 u26 u27 u28 u29 u30 u31 u32 u33 u34 u35 u36 u37 u38 u39 u40 u41 u42 u43 u44 u45 u46 u47 u48 u49 u50 u51 u52 u53 u54 u55 u56 u57 u58 u59 u60 u61 u62 u63 u64 u65 u66 u67 u68 u69 u70 u71 u72 u73 u74 u75 u76 u77 u78 u79 u80 u81 u82 u83 u84 u85 u86 u87 u88 u89 u90 u91 u92 u93 u94 u95 u96 u97 u98 u99 u100 u101 u102 u103 u104 u105 u106 u107 u108 u109 u110 u111 u112 u113 u114 u115 u116 u117 u118 u119 u120 u121 u122 u123 u124 u125 : Value) :
    Code.wp Try.prog ((Try.f3.body.bind (fromRegion 14)).getD .skip) (bodyPost Try.prog Try.f3 fun e w' => e = .returned (.bool true) ∧ Below w0.heap.size w0 w') ⟨#[.slice pa n pc, .slice sa m sc, u2, u3, u4, .slice oa (n + K) oc, .int .i64 (idxOf m K), .bool (decide (K < m)), .int .i64 K, u9, u10, u11, u12, u13, u14, u15, u16, u17, u18, u19, u20, u21, u22, u23, u24, u25, u26, u27, u28, u29, u30, u31, u32, u33, u34, u35, u36, u37, u38, u39, u40, u41, u42, u43, u44, u45, u46, u47, u48, u49, u50, u51, u52, u53, u54, u55, u56, u57, u58, u59, u60, u61, u62, u63, u64, u65, u66, u67, u68, u69, u70, u71, u72, u73, u74, u75, u76, u77, u78, u79, u80, u81, u82, u83, u84, u85, u86, u87, u88, u89, u90, u91, u92, u93, u94, u95, u96, u97, u98, u99, u100, u101, u102, u103, u104, u105, u106, u107, u108, u109, u110, u111, u112, u113, u114, u115, u116, u117, u118, u119, u120, u121, u122, u123, u124, u125], []⟩ w3 := by
  conv => arg 2; whnf
  have hidx : Hid (K < m → idxOf m K = K) := fun h => by unfold idxOf; rw [if_pos h]
  by_cases hKl : K < m
  · rw [hidx.out hKl]
    clear hidx
    go_wp2
    go_loopw [10] (fun i wr => ∃ k : Nat, k ≤ n ∧ i = .int .i64 k ∧ Below w3.heap.size w3 wr) (fun i _ => n - (intOf i).toNat)
    case atStart => exact ⟨0, Nat.zero_le _, rfl, Below.refl _ _⟩
    case round =>
      rename World => wA
      obtain ⟨k, hk, rfl, hbel⟩ := hrel
      have hsz := hbel.size
      by_cases hlt : k < n
      · obtain ⟨g, cp, he, _, hgl⟩ := HO.out.form (by omega)
        simp only [Value.slice.injEq] at he
        obtain ⟨rfl, _, rfl⟩ := he
        obtain ⟨b, off, he, hc0, hc1⟩ := HP.out k hlt
        subst he
        have x0 : wA.cell? ⟨g, k * 2, none⟩ = some (.float .f64 (PR k)) := by rw [hbel.cell (by exact hgl)]; exact own_cell HO.out (j := k * 2 + 0) (append_at_left (by rw [placesL_at _ _ _ _ _ hlt (by omega)]; rfl))
        have x1 : wA.cell? ⟨g, k * 2 + 1, none⟩ = some (.float .f64 (PD k)) := by rw [hbel.cell (by exact hgl)]; exact own_cell HO.out (append_at_left (by rw [placesL_at _ _ _ _ _ hlt (by omega)]; rfl))
        have y0 : wA.cell? ⟨b, off + k * 2, none⟩ = some (.float .f64 (PR k)) := by rw [hbel.cell (by exact lt_of_cell hc0)]; exact hc0
        have y1 : wA.cell? ⟨b, off + k * 2 + 1, none⟩ = some (.float .f64 (PD k)) := by rw [hbel.cell (by exact lt_of_cell hc1)]; exact hc1
        have l0 : g < wA.heap.size := by omega
        have l1 : b < wA.heap.size := lt_of_cell y0
        have i0 : (k : Int) < (n : Int) + (K : Int) := by omega
        clear hc0 hc1
        go_wp2
        go_region_held3 (fun w' => w'.cell? ⟨g, k * 2, none⟩ = some (.float .f64 (PR k)) ∧ w'.cell? ⟨g, k * 2 + 1, none⟩ = some (.float .f64 (PD k)) ∧ w'.cell? ⟨b, off + k * 2, none⟩ = some (.float .f64 (PR k)) ∧ w'.cell? ⟨b, off + k * 2 + 1, none⟩ = some (.float .f64 (PD k))) (simp [go_sem, *]) (first | (go_at_call 9; refine (placeIs_any _ _ _).mono ?_; rintro e w' ⟨rfl, rfl⟩))
        go_wp2
        go_roundw
        case rel => exact ⟨k + 1, by omega, by go_num, (hbel.alloc hsz _).drew⟩
        case measure => simp [intOf]; omega
      · obtain rfl : k = n := by omega
        clear hlt hk
        go_wp2
        go_loopw [11] (fun i wr => ∃ j : Nat, j ≤ K ∧ i = .int .i64 j ∧ Below w3.heap.size w3 wr) (fun i _ => K - (intOf i).toNat)
        case atStart => exact ⟨0, Nat.zero_le _, rfl, hbel⟩
        case round =>
          clear hbel hsz
          rename World => wB
          obtain ⟨j, hj, rfl, hbel⟩ := hrel
          have hsz := hbel.size
          by_cases hlt : j < K
          · obtain ⟨g, cp, he, _, hgl⟩ := HO.out.form (by omega)
            simp only [Value.slice.injEq] at he
            obtain ⟨rfl, _, rfl⟩ := he
            obtain ⟨b, off, he, hc0, hc1⟩ := HS.out j (by omega)
            subst he
            have x0 : wB.cell? ⟨g, (k + j) * 2, none⟩ = some (.float .f64 (SR j)) := by rw [hbel.cell (by exact hgl)]; exact own_cell HO.out (j := (k + j) * 2 + 0) (places_right _ _ _ _ _ _ _ _ hlt (by omega) rfl)
            have x1 : wB.cell? ⟨g, (k + j) * 2 + 1, none⟩ = some (.float .f64 (SD j)) := by rw [hbel.cell (by exact hgl)]; exact own_cell HO.out (places_right _ _ _ _ _ _ _ _ hlt (by omega) rfl)
            have y0 : wB.cell? ⟨b, off + j * 2, none⟩ = some (.float .f64 (SR j)) := by rw [hbel.cell (by exact lt_of_cell hc0)]; exact hc0
            have y1 : wB.cell? ⟨b, off + j * 2 + 1, none⟩ = some (.float .f64 (SD j)) := by rw [hbel.cell (by exact lt_of_cell hc1)]; exact hc1
            have l0 : g < wB.heap.size := by omega
            have l1 : b < wB.heap.size := lt_of_cell y0
            have ej : ((k : Int) + (j : Int)).toNat = k + j := by omega
            rw [← ej] at x0 x1
            clear ej
            have i1 : (j : Int) < (m : Int) := by omega
            have i2 : (0 : Int) ≤ (k : Int) + (j : Int) := by omega
            have i3 : (k : Int) + (j : Int) < (k : Int) + (K : Int) := by omega
            have i4 : IntKind.i64.wrap ((k : Int) + (j : Int)) = (k : Int) + (j : Int) := by rw [IntKind.wrap_i64]; omega
            clear hc0 hc1
            go_wp2
            go_region_held3 (fun w' => w'.cell? ⟨g, ((k : Int) + (j : Int)).toNat * 2, none⟩ = some (.float .f64 (SR j)) ∧ w'.cell? ⟨g, ((k : Int) + (j : Int)).toNat * 2 + 1, none⟩ = some (.float .f64 (SD j)) ∧ w'.cell? ⟨b, off + j * 2, none⟩ = some (.float .f64 (SR j)) ∧ w'.cell? ⟨b, off + j * 2 + 1, none⟩ = some (.float .f64 (SD j))) (simp [go_sem, *]) (first | (go_at_call 9; refine (placeIs_any _ _ _).mono ?_; rintro e w' ⟨rfl, rfl⟩))
            go_wp2
            go_roundw
            case rel => exact ⟨j + 1, by omega, by go_num, (hbel.alloc hsz _).drew⟩
            case measure => simp [intOf]; omega
          · have hfin : Below w0.heap.size w0 wB := HB.out.trans (hbel.mono HB.out.size)
            go_wp2
            go_ret
            exact ⟨rfl, hfin⟩
  · clear hidx
    go_wp2
    go_loopw [10] (fun i wr => ∃ k : Nat, k ≤ n ∧ i = .int .i64 k ∧ Below w3.heap.size w3 wr) (fun i _ => n - (intOf i).toNat)
    case atStart => exact ⟨0, Nat.zero_le _, rfl, Below.refl _ _⟩
    case round =>
      rename World => wA
      obtain ⟨k, hk, rfl, hbel⟩ := hrel
      have hsz := hbel.size
      by_cases hlt : k < n
      · obtain ⟨g, cp, he, _, hgl⟩ := HO.out.form (by omega)
        simp only [Value.slice.injEq] at he
        obtain ⟨rfl, _, rfl⟩ := he
        obtain ⟨b, off, he, hc0, hc1⟩ := HP.out k hlt
        subst he
        have x0 : wA.cell? ⟨g, k * 2, none⟩ = some (.float .f64 (PR k)) := by rw [hbel.cell (by exact hgl)]; exact own_cell HO.out (j := k * 2 + 0) (append_at_left (by rw [placesL_at _ _ _ _ _ hlt (by omega)]; rfl))
        have x1 : wA.cell? ⟨g, k * 2 + 1, none⟩ = some (.float .f64 (PD k)) := by rw [hbel.cell (by exact hgl)]; exact own_cell HO.out (append_at_left (by rw [placesL_at _ _ _ _ _ hlt (by omega)]; rfl))
        have y0 : wA.cell? ⟨b, off + k * 2, none⟩ = some (.float .f64 (PR k)) := by rw [hbel.cell (by exact lt_of_cell hc0)]; exact hc0
        have y1 : wA.cell? ⟨b, off + k * 2 + 1, none⟩ = some (.float .f64 (PD k)) := by rw [hbel.cell (by exact lt_of_cell hc1)]; exact hc1
        have l0 : g < wA.heap.size := by omega
        have l1 : b < wA.heap.size := lt_of_cell y0
        have i0 : (k : Int) < (n : Int) + (K : Int) := by omega
        clear hc0 hc1
        go_wp2
        go_region_held3 (fun w' => w'.cell? ⟨g, k * 2, none⟩ = some (.float .f64 (PR k)) ∧ w'.cell? ⟨g, k * 2 + 1, none⟩ = some (.float .f64 (PD k)) ∧ w'.cell? ⟨b, off + k * 2, none⟩ = some (.float .f64 (PR k)) ∧ w'.cell? ⟨b, off + k * 2 + 1, none⟩ = some (.float .f64 (PD k))) (simp [go_sem, *]) (first | (go_at_call 9; refine (placeIs_any _ _ _).mono ?_; rintro e w' ⟨rfl, rfl⟩))
        go_wp2
        go_roundw
        case rel => exact ⟨k + 1, by omega, by go_num, (hbel.alloc hsz _).drew⟩
        case measure => simp [intOf]; omega
      · obtain rfl : k = n := by omega
        clear hlt hk
        go_wp2
        go_loopw [11] (fun i wr => ∃ j : Nat, j ≤ K ∧ i = .int .i64 j ∧ Below w3.heap.size w3 wr) (fun i _ => K - (intOf i).toNat)
        case atStart => exact ⟨0, Nat.zero_le _, rfl, hbel⟩
        case round =>
          clear hbel hsz
          rename World => wB
          obtain ⟨j, hj, rfl, hbel⟩ := hrel
          have hsz := hbel.size
          by_cases hlt : j < K
          · obtain ⟨g, cp, he, _, hgl⟩ := HO.out.form (by omega)
            simp only [Value.slice.injEq] at he
            obtain ⟨rfl, _, rfl⟩ := he
            obtain ⟨b, off, he, hc0, hc1⟩ := HS.out j (by omega)
            subst he
            have x0 : wB.cell? ⟨g, (k + j) * 2, none⟩ = some (.float .f64 (SR j)) := by rw [hbel.cell (by exact hgl)]; exact own_cell HO.out (j := (k + j) * 2 + 0) (places_right _ _ _ _ _ _ _ _ hlt (by omega) rfl)
            have x1 : wB.cell? ⟨g, (k + j) * 2 + 1, none⟩ = some (.float .f64 (SD j)) := by rw [hbel.cell (by exact hgl)]; exact own_cell HO.out (places_right _ _ _ _ _ _ _ _ hlt (by omega) rfl)
            have y0 : wB.cell? ⟨b, off + j * 2, none⟩ = some (.float .f64 (SR j)) := by rw [hbel.cell (by exact lt_of_cell hc0)]; exact hc0
            have y1 : wB.cell? ⟨b, off + j * 2 + 1, none⟩ = some (.float .f64 (SD j)) := by rw [hbel.cell (by exact lt_of_cell hc1)]; exact hc1
            have l0 : g < wB.heap.size := by omega
            have l1 : b < wB.heap.size := lt_of_cell y0
            have ej : ((k : Int) + (j : Int)).toNat = k + j := by omega
            rw [← ej] at x0 x1
            clear ej
            have i1 : (j : Int) < (m : Int) := by omega
            have i2 : (0 : Int) ≤ (k : Int) + (j : Int) := by omega
            have i3 : (k : Int) + (j : Int) < (k : Int) + (K : Int) := by omega
            have i4 : IntKind.i64.wrap ((k : Int) + (j : Int)) = (k : Int) + (j : Int) := by rw [IntKind.wrap_i64]; omega
            clear hc0 hc1
            go_wp2
            go_region_held3 (fun w' => w'.cell? ⟨g, ((k : Int) + (j : Int)).toNat * 2, none⟩ = some (.float .f64 (SR j)) ∧ w'.cell? ⟨g, ((k : Int) + (j : Int)).toNat * 2 + 1, none⟩ = some (.float .f64 (SD j)) ∧ w'.cell? ⟨b, off + j * 2, none⟩ = some (.float .f64 (SR j)) ∧ w'.cell? ⟨b, off + j * 2 + 1, none⟩ = some (.float .f64 (SD j))) (simp [go_sem, *]) (first | (go_at_call 9; refine (placeIs_any _ _ _).mono ?_; rintro e w' ⟨rfl, rfl⟩))
            go_wp2
            go_roundw
            case rel => exact ⟨j + 1, by omega, by go_num, (hbel.alloc hsz _).drew⟩
            case measure => simp [intOf]; omega
          · have hfin : Below w0.heap.size w0 wB := HB.out.trans (hbel.mono HB.out.size)
            go_wp2
            go_ret
            exact ⟨rfl, hfin⟩
end Go.Proofs.Qxb6609382a.W
