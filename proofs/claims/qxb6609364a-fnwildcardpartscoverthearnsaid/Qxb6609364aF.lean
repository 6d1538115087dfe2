import Derived.Test.Qxb6609364aE0
namespace Go.Proofs.Qxb6609364a.W
open Go.RowKit Go.Deep

set_option maxHeartbeats 4000000 in
set_option maxRecDepth 100000 in
theorem rest24h (w0 w8 : World) (a0 a1 : Bool) (fi : Int) (s : ByteArray) (a4 a5 a6 ap : Option Addr) (n c4 c5 c6 cp g8 c8 : Nat) (F P : Nat → Bool) (T : Nat → ByteArray) (CP : Nat → Option Addr)
    (HO8 : Hid (w8.ownsRow 0 41 5 (.slice (some ⟨g8, 0, none⟩) (1 + n) c8) (1 + n) (partL false true s none 6 ++ partsL F P T CP (slotOf fi n) n))) (HO7 : Hid (w8.ownsRow 0 39 4 (.slice ap n cp) n (wilds F P T CP n)))
    (HF8 : Hid (Cells w8 a4 n (fun i => .bool (F i)))) (HP8 : Hid (Cells w8 a5 n (fun i => .bool (P i)))) (HT8 : Hid (Cells w8 a6 n (fun i => .string (T i)))) (HB : Hid (Below w0.heap.size w0 w8))
    (hn6 : n ≤ 6) (Hgood : Hid (0 < n → 0 ≤ fi ∧ fi + n ≤ 6)) (f0 : -128 ≤ fi) (f1 : fi ≤ 127) (he : s.toList.isEmpty = false)
    (u7 u8 u9 u10 u11 u12 u13 u14 u15 u17 u18 u19 u21 u24 u25 u26 u27 u28 u29 u30 u31 u32 u33 u34 u35 u36 u37 u38 u39 u40 u41 u42 u43 u44 u45 u46 u47 u48 u49 u50 u51 u52 u53 u54 u55 u56 u57 u58 u59 u60 u61 u62 u63 u64 u65 u66 u67 u68 u69 u70 u71 u72 u73 u74 u75 u76 u77 u78 u79 u80 u81 u82 u83 u84 u85 u86 u87 u88 u89 u90 u91 u92 u93 u94 u95 u96 u97 u98 u99 u100 u101 u102 u103 u104 u105 u106 u107 u108 u109 u110 u111 u112 u113 u114 u115 u116 u117 u118 u119 u120 u121 u122 u123 u124 u125 u126 u127 u128 u129 u130 u131 u132 u133 u134 u135 u136 u137 u138 u139 u140 u141 u142 u143 u144 u145 u146 u147 u148 u149 u150 u151 u152 u153 u154 u155 u156 u157 u158 u159 u160 u161 u162 u163 u164 u165 u166 u167 u168 u169 u170 u171 u172 u173 u174 u175 u176 u177 u178 u179 u180 u181 u182 u183 u184 u185 u186 u187 u188 u189 u190 u191 u192 u193 u194 u195 u196 u197 u198 u199 u200 u201 u202 u203 u204 u205 u206 u207 u208 u209 u210 u211 u212 u213 u214 u215 u216 u217 u218 u219 u220 u221 u222 u223 u224 u225 u226 u227 u228 u229 u230 u231 u232 u233 u234 : Value) :
    Code.wp Try.prog ((Try.f3.body.bind (afterRegion 24)).getD .skip) (bodyPost Try.prog Try.f3 fun e w' => e = .returned (.bool true) ∧ Below w0.heap.size w0 w') ⟨#[.bool a0, .bool a1, .int .i8 fi, .string s, .slice a4 n c4, .slice a5 n c5, .slice a6 n c6, u7, u8, u9, u10, u11, u12, u13, u14, u15, .bool false, u17, u18, u19, .int .i64 n, u21, .slice ap n cp, .slice (some ⟨g8, 0, none⟩) (1 + n) c8, u24, u25, u26, u27, u28, u29, u30, u31, u32, u33, u34, u35, u36, u37, u38, u39, u40, u41, u42, u43, u44, u45, u46, u47, u48, u49, u50, u51, u52, u53, u54, u55, u56, u57, u58, u59, u60, u61, u62, u63, u64, u65, u66, u67, u68, u69, u70, u71, u72, u73, u74, u75, u76, u77, u78, u79, u80, u81, u82, u83, u84, u85, u86, u87, u88, u89, u90, u91, u92, u93, u94, u95, u96, u97, u98, u99, u100, u101, u102, u103, u104, u105, u106, u107, u108, u109, u110, u111, u112, u113, u114, u115, u116, u117, u118, u119, u120, u121, u122, u123, u124, u125, u126, u127, u128, u129, u130, u131, u132, u133, u134, u135, u136, u137, u138, u139, u140, u141, u142, u143, u144, u145, u146, u147, u148, u149, u150, u151, u152, u153, u154, u155, u156, u157, u158, u159, u160, u161, u162, u163, u164, u165, u166, u167, u168, u169, u170, u171, u172, u173, u174, u175, u176, u177, u178, u179, u180, u181, u182, u183, u184, u185, u186, u187, u188, u189, u190, u191, u192, u193, u194, u195, u196, u197, u198, u199, u200, u201, u202, u203, u204, u205, u206, u207, u208, u209, u210, u211, u212, u213, u214, u215, u216, u217, u218, u219, u220, u221, u222, u223, u224, u225, u226, u227, u228, u229, u230, u231, u232, u233, u234], []⟩ w8 := by
  conv => arg 2; whnf
  have y : ∀ j u, j < 5 → (partL false true s none 6)[j]? = some u → w8.cell? ⟨g8, j, none⟩ = some u := fun j u hj hu => own_cell HO8.out (by rw [List.getElem?_append_left (by simpa [partL] using hj)]; exact hu)
  have y0 : w8.cell? ⟨g8, 0, none⟩ = some (.bool false) := y 0 _ (by omega) rfl
  have y1 : w8.cell? ⟨g8, 1, none⟩ = some (.bool true) := y 1 _ (by omega) rfl
  have y2 : w8.cell? ⟨g8, 2, none⟩ = some (.string s) := y 2 _ (by omega) rfl
  have y3 : w8.cell? ⟨g8, 3, none⟩ = some (.pointer none) := y 3 _ (by omega) rfl
  have y4 : w8.cell? ⟨g8, 4, none⟩ = some (.int .i64 6) := y 4 _ (by omega) rfl
  clear y
  go_wp2_with (go_at_call 9; refine (fields_any _ _ _ _ _ _).mono ?_; rintro e wf ⟨rfl, nf, rfl⟩)
  clear y0 y1 y2 y3 y4
  go_loopw [30, 31] (fun nx i wr => ∃ k : Nat, k ≤ n ∧ i = .int .i64 k ∧ nx = .int .i64 (nextAt fi n k) ∧ Below w8.heap.size w8 wr) (fun _ i _ => n - (intOf i).toNat)
  case atStart => exact ⟨0, Nat.zero_le _, rfl, by unfold nextAt; rw [if_neg (by omega)]; simp, below_drewN ((Below.refl _ _).alloc (Nat.le_refl _) _) _⟩
  case round =>
    rename World => wL
    obtain ⟨k, hk, rfl, hnx, hbel⟩ := hrel
    by_cases hlt : k < n
    · rw [nextAt_lt _ _ _ hlt] at hnx
      subst hnx
      obtain ⟨q0, q1⟩ := Hgood.out (by omega)
      obtain ⟨fb, fo, hfe, hfc⟩ := HF8.out k hlt
      obtain ⟨pb, po, hpe, hpc⟩ := HP8.out k hlt
      obtain ⟨tb, t0, hte, htc⟩ := HT8.out k hlt
      subst hfe hpe hte
      obtain ⟨sg, scp, hse, _, _⟩ := HO7.out.form (by omega)
      simp only [Value.slice.injEq] at hse
      obtain ⟨rfl, _, rfl⟩ := hse
      have hfc' := cell_in hbel hfc
      have hpc' := cell_in hbel hpc
      have htc' := cell_in hbel htc
      have l1 := lt_of_cell hfc'
      have l2 := lt_of_cell hpc'
      have l3 := lt_of_cell htc'
      have r : ∀ j u, j < 4 → (wildL (F k) (P k) (T k) (CP k))[j]? = some u → wL.cell? ⟨sg, k * 4 + j, none⟩ = some u := fun j u hj hu => cell_in hbel (own_cell HO7.out (by rw [wilds_at _ _ _ _ _ _ _ hlt hj]; exact hu))
      have r0 : wL.cell? ⟨sg, k * 4, none⟩ = some (.bool (F k)) := r 0 _ (by omega) rfl
      have r1 : wL.cell? ⟨sg, k * 4 + 1, none⟩ = some (.bool (P k)) := r 1 _ (by omega) rfl
      have r2 : wL.cell? ⟨sg, k * 4 + 2, none⟩ = some (.string (T k)) := r 2 _ (by omega) rfl
      have r3 : wL.cell? ⟨sg, k * 4 + 3, none⟩ = some (.pointer (CP k)) := r 3 _ (by omega) rfl
      have l4 := lt_of_cell r0
      have x : ∀ j u, j < 5 → (partL (F k) (P k) (T k) (CP k) (slotOf fi n k))[j]? = some u → wL.cell? ⟨g8, (1 + k) * 5 + j, none⟩ = some u := fun j u hj hu => cell_in hbel (own_cell HO8.out (by rw [hd_at _ _ _ _ _ _ _ _ _ hlt hj]; exact hu))
      have x0 : wL.cell? ⟨g8, (1 + k) * 5, none⟩ = some (.bool (F k)) := x 0 _ (by omega) rfl
      have x1 : wL.cell? ⟨g8, (1 + k) * 5 + 1, none⟩ = some (.bool (P k)) := x 1 _ (by omega) rfl
      have x2 : wL.cell? ⟨g8, (1 + k) * 5 + 2, none⟩ = some (.string (T k)) := x 2 _ (by omega) rfl
      have x3 : wL.cell? ⟨g8, (1 + k) * 5 + 3, none⟩ = some (.pointer (CP k)) := x 3 _ (by omega) rfl
      have x4 : wL.cell? ⟨g8, (1 + k) * 5 + 4, none⟩ = some (.int .i64 (slotOf fi n k)) := x 4 _ (by omega) rfl
      clear x r hfc hpc htc
      have hpp := neq35
      have hend : ∀ c c2 n', Below w8.heap.size w8 (((wL.alloc (.cells c 41)).drewN n').alloc (.cells c2 39)) := fun c c2 n' => by
        have hs := hbel.size
        exact (below_drewN (hbel.alloc hs _) n').alloc (by simp; omega) _
      have Hend : Hid (∀ c c2 n', Below w8.heap.size w8 (((wL.alloc (.cells c 41)).drewN n').alloc (.cells c2 39))) := hend
      clear hend
      by_cases hlast : k + 1 = n
      · by_cases hj : fi + k < 5
        · rw [show slotOf fi n k = 6 + (fi + k) by unfold slotOf; rw [if_pos ⟨hlast, hj⟩]] at x4
          go_wp2_with (first | (go_at_call 9; refine (fields_any _ _ _ _ _ _).mono ?_; rintro e wf ⟨rfl, nf, rfl⟩) | (go_at_call 10; refine (compiled_any _ _ _ _ _).mono ?_; rintro e wf ⟨rfl, rfl⟩))
          go_roundw
          case rel => exact ⟨k + 1, by omega, by go_num, by rw [hlast, nextAt_end _ _ (by omega)], Hend.out _ _ _⟩
          case measure => simp [intOf]; omega
        · have h5 : fi + (k : Int) = 5 := by omega
          rw [show slotOf fi n k = 5 by unfold slotOf; rw [if_neg (fun h => hj h.2)]; exact h5] at x4
          go_wp2_with (first | (go_at_call 9; refine (fields_any _ _ _ _ _ _).mono ?_; rintro e wf ⟨rfl, nf, rfl⟩) | (go_at_call 10; refine (compiled_any _ _ _ _ _).mono ?_; rintro e wf ⟨rfl, rfl⟩))
          go_roundw
          case rel => exact ⟨k + 1, by omega, by go_num, by rw [hlast, nextAt_end _ _ (by omega)], Hend.out _ _ _⟩
          case measure => simp [intOf]; omega
      · rw [show slotOf fi n k = fi + k by unfold slotOf; rw [if_neg (fun h => hlast h.1)]] at x4
        go_wp2_with (first | (go_at_call 9; refine (fields_any _ _ _ _ _ _).mono ?_; rintro e wf ⟨rfl, nf, rfl⟩) | (go_at_call 10; refine (compiled_any _ _ _ _ _).mono ?_; rintro e wf ⟨rfl, rfl⟩))
        go_roundw
        case rel => exact ⟨k + 1, by omega, by go_num, by rw [nextAt_lt _ _ _ (by omega)]; go_num, Hend.out _ _ _⟩
        case measure => simp [intOf]; omega
    · obtain rfl : k = n := by omega
      have hfin : Below w0.heap.size w0 wL := HB.out.trans (hbel.mono HB.out.size)
      by_cases h0 : 0 < k
      · rw [nextAt_end _ _ h0] at hnx
        subst hnx
        have hk0 : ((k : Int) == 0) = false := by simp; omega
        go_wp2_with fail
        go_ret
        exact ⟨rfl, hfin⟩
      · obtain rfl : k = 0 := by omega
        subst hnx
        go_wp2_with fail
        go_ret
        exact ⟨rfl, hfin⟩
set_option maxHeartbeats 4000000 in
set_option maxRecDepth 100000 in
theorem rest24e (w0 w8 : World) (a0 a1 : Bool) (fi : Int) (s : ByteArray) (a4 a5 a6 ap : Option Addr) (n c4 c5 c6 cp g8 c8 : Nat) (F P : Nat → Bool) (T : Nat → ByteArray) (CP : Nat → Option Addr)
    (HO8 : Hid (w8.ownsRow 0 41 5 (.slice (some ⟨g8, 0, none⟩) n c8) n (partsL F P T CP (slotOf fi n) n))) (HO7 : Hid (w8.ownsRow 0 39 4 (.slice ap n cp) n (wilds F P T CP n)))
    (HF8 : Hid (Cells w8 a4 n (fun i => .bool (F i)))) (HP8 : Hid (Cells w8 a5 n (fun i => .bool (P i)))) (HT8 : Hid (Cells w8 a6 n (fun i => .string (T i)))) (HB : Hid (Below w0.heap.size w0 w8))
    (hn6 : n ≤ 6) (Hgood : Hid (0 < n → 0 ≤ fi ∧ fi + n ≤ 6)) (f0 : -128 ≤ fi) (f1 : fi ≤ 127) (he : s.toList.isEmpty = true)
    (u7 u8 u9 u10 u11 u12 u13 u14 u15 u17 u18 u19 u21 u24 u25 u26 u27 u28 u29 u30 u31 u32 u33 u34 u35 u36 u37 u38 u39 u40 u41 u42 u43 u44 u45 u46 u47 u48 u49 u50 u51 u52 u53 u54 u55 u56 u57 u58 u59 u60 u61 u62 u63 u64 u65 u66 u67 u68 u69 u70 u71 u72 u73 u74 u75 u76 u77 u78 u79 u80 u81 u82 u83 u84 u85 u86 u87 u88 u89 u90 u91 u92 u93 u94 u95 u96 u97 u98 u99 u100 u101 u102 u103 u104 u105 u106 u107 u108 u109 u110 u111 u112 u113 u114 u115 u116 u117 u118 u119 u120 u121 u122 u123 u124 u125 u126 u127 u128 u129 u130 u131 u132 u133 u134 u135 u136 u137 u138 u139 u140 u141 u142 u143 u144 u145 u146 u147 u148 u149 u150 u151 u152 u153 u154 u155 u156 u157 u158 u159 u160 u161 u162 u163 u164 u165 u166 u167 u168 u169 u170 u171 u172 u173 u174 u175 u176 u177 u178 u179 u180 u181 u182 u183 u184 u185 u186 u187 u188 u189 u190 u191 u192 u193 u194 u195 u196 u197 u198 u199 u200 u201 u202 u203 u204 u205 u206 u207 u208 u209 u210 u211 u212 u213 u214 u215 u216 u217 u218 u219 u220 u221 u222 u223 u224 u225 u226 u227 u228 u229 u230 u231 u232 u233 u234 : Value) :
    Code.wp Try.prog ((Try.f3.body.bind (afterRegion 24)).getD .skip) (bodyPost Try.prog Try.f3 fun e w' => e = .returned (.bool true) ∧ Below w0.heap.size w0 w') ⟨#[.bool a0, .bool a1, .int .i8 fi, .string s, .slice a4 n c4, .slice a5 n c5, .slice a6 n c6, u7, u8, u9, u10, u11, u12, u13, u14, u15, .bool false, u17, u18, u19, .int .i64 n, u21, .slice ap n cp, .slice (some ⟨g8, 0, none⟩) n c8, u24, u25, u26, u27, u28, u29, u30, u31, u32, u33, u34, u35, u36, u37, u38, u39, u40, u41, u42, u43, u44, u45, u46, u47, u48, u49, u50, u51, u52, u53, u54, u55, u56, u57, u58, u59, u60, u61, u62, u63, u64, u65, u66, u67, u68, u69, u70, u71, u72, u73, u74, u75, u76, u77, u78, u79, u80, u81, u82, u83, u84, u85, u86, u87, u88, u89, u90, u91, u92, u93, u94, u95, u96, u97, u98, u99, u100, u101, u102, u103, u104, u105, u106, u107, u108, u109, u110, u111, u112, u113, u114, u115, u116, u117, u118, u119, u120, u121, u122, u123, u124, u125, u126, u127, u128, u129, u130, u131, u132, u133, u134, u135, u136, u137, u138, u139, u140, u141, u142, u143, u144, u145, u146, u147, u148, u149, u150, u151, u152, u153, u154, u155, u156, u157, u158, u159, u160, u161, u162, u163, u164, u165, u166, u167, u168, u169, u170, u171, u172, u173, u174, u175, u176, u177, u178, u179, u180, u181, u182, u183, u184, u185, u186, u187, u188, u189, u190, u191, u192, u193, u194, u195, u196, u197, u198, u199, u200, u201, u202, u203, u204, u205, u206, u207, u208, u209, u210, u211, u212, u213, u214, u215, u216, u217, u218, u219, u220, u221, u222, u223, u224, u225, u226, u227, u228, u229, u230, u231, u232, u233, u234], []⟩ w8 := by
  conv => arg 2; whnf
  go_wp2_with fail
  go_loopw [30, 31] (fun nx i wr => ∃ k : Nat, k ≤ n ∧ i = .int .i64 k ∧ nx = .int .i64 (nextAt fi n k) ∧ Below w8.heap.size w8 wr) (fun _ i _ => n - (intOf i).toNat)
  case atStart => exact ⟨0, Nat.zero_le _, rfl, by unfold nextAt; rw [if_neg (by omega)]; simp, Below.refl _ _⟩
  case round =>
    rename World => wL
    obtain ⟨k, hk, rfl, hnx, hbel⟩ := hrel
    by_cases hlt : k < n
    · rw [nextAt_lt _ _ _ hlt] at hnx
      subst hnx
      obtain ⟨q0, q1⟩ := Hgood.out (by omega)
      obtain ⟨fb, fo, hfe, hfc⟩ := HF8.out k hlt
      obtain ⟨pb, po, hpe, hpc⟩ := HP8.out k hlt
      obtain ⟨tb, t0, hte, htc⟩ := HT8.out k hlt
      subst hfe hpe hte
      obtain ⟨sg, scp, hse, _, _⟩ := HO7.out.form (by omega)
      simp only [Value.slice.injEq] at hse
      obtain ⟨rfl, _, rfl⟩ := hse
      have hfc' := cell_in hbel hfc
      have hpc' := cell_in hbel hpc
      have htc' := cell_in hbel htc
      have l1 := lt_of_cell hfc'
      have l2 := lt_of_cell hpc'
      have l3 := lt_of_cell htc'
      have r : ∀ j u, j < 4 → (wildL (F k) (P k) (T k) (CP k))[j]? = some u → wL.cell? ⟨sg, k * 4 + j, none⟩ = some u := fun j u hj hu => cell_in hbel (own_cell HO7.out (by rw [wilds_at _ _ _ _ _ _ _ hlt hj]; exact hu))
      have r0 : wL.cell? ⟨sg, k * 4, none⟩ = some (.bool (F k)) := r 0 _ (by omega) rfl
      have r1 : wL.cell? ⟨sg, k * 4 + 1, none⟩ = some (.bool (P k)) := r 1 _ (by omega) rfl
      have r2 : wL.cell? ⟨sg, k * 4 + 2, none⟩ = some (.string (T k)) := r 2 _ (by omega) rfl
      have r3 : wL.cell? ⟨sg, k * 4 + 3, none⟩ = some (.pointer (CP k)) := r 3 _ (by omega) rfl
      have l4 := lt_of_cell r0
      have x : ∀ j u, j < 5 → (partL (F k) (P k) (T k) (CP k) (slotOf fi n k))[j]? = some u → wL.cell? ⟨g8, k * 5 + j, none⟩ = some u := fun j u hj hu => cell_in hbel (own_cell HO8.out (by rw [partsL_at _ _ _ _ _ _ _ _ hlt hj]; exact hu))
      have x0 : wL.cell? ⟨g8, k * 5, none⟩ = some (.bool (F k)) := x 0 _ (by omega) rfl
      have x1 : wL.cell? ⟨g8, k * 5 + 1, none⟩ = some (.bool (P k)) := x 1 _ (by omega) rfl
      have x2 : wL.cell? ⟨g8, k * 5 + 2, none⟩ = some (.string (T k)) := x 2 _ (by omega) rfl
      have x3 : wL.cell? ⟨g8, k * 5 + 3, none⟩ = some (.pointer (CP k)) := x 3 _ (by omega) rfl
      have x4 : wL.cell? ⟨g8, k * 5 + 4, none⟩ = some (.int .i64 (slotOf fi n k)) := x 4 _ (by omega) rfl
      clear x r hfc hpc htc
      have hpp := neq35
      have hend : ∀ c c2 n', Below w8.heap.size w8 (((wL.alloc (.cells c 41)).drewN n').alloc (.cells c2 39)) := fun c c2 n' => by
        have hs := hbel.size
        exact (below_drewN (hbel.alloc hs _) n').alloc (by simp; omega) _
      have Hend : Hid (∀ c c2 n', Below w8.heap.size w8 (((wL.alloc (.cells c 41)).drewN n').alloc (.cells c2 39))) := hend
      clear hend
      by_cases hlast : k + 1 = n
      · by_cases hj : fi + k < 5
        · rw [show slotOf fi n k = 6 + (fi + k) by unfold slotOf; rw [if_pos ⟨hlast, hj⟩]] at x4
          go_wp2_with (first | (go_at_call 9; refine (fields_any _ _ _ _ _ _).mono ?_; rintro e wf ⟨rfl, nf, rfl⟩) | (go_at_call 10; refine (compiled_any _ _ _ _ _).mono ?_; rintro e wf ⟨rfl, rfl⟩))
          go_roundw
          case rel => exact ⟨k + 1, by omega, by go_num, by rw [hlast, nextAt_end _ _ (by omega)], Hend.out _ _ _⟩
          case measure => simp [intOf]; omega
        · have h5 : fi + (k : Int) = 5 := by omega
          rw [show slotOf fi n k = 5 by unfold slotOf; rw [if_neg (fun h => hj h.2)]; exact h5] at x4
          go_wp2_with (first | (go_at_call 9; refine (fields_any _ _ _ _ _ _).mono ?_; rintro e wf ⟨rfl, nf, rfl⟩) | (go_at_call 10; refine (compiled_any _ _ _ _ _).mono ?_; rintro e wf ⟨rfl, rfl⟩))
          go_roundw
          case rel => exact ⟨k + 1, by omega, by go_num, by rw [hlast, nextAt_end _ _ (by omega)], Hend.out _ _ _⟩
          case measure => simp [intOf]; omega
      · rw [show slotOf fi n k = fi + k by unfold slotOf; rw [if_neg (fun h => hlast h.1)]] at x4
        go_wp2_with (first | (go_at_call 9; refine (fields_any _ _ _ _ _ _).mono ?_; rintro e wf ⟨rfl, nf, rfl⟩) | (go_at_call 10; refine (compiled_any _ _ _ _ _).mono ?_; rintro e wf ⟨rfl, rfl⟩))
        go_roundw
        case rel => exact ⟨k + 1, by omega, by go_num, by rw [nextAt_lt _ _ _ (by omega)]; go_num, Hend.out _ _ _⟩
        case measure => simp [intOf]; omega
    · obtain rfl : k = n := by omega
      have hfin : Below w0.heap.size w0 wL := HB.out.trans (hbel.mono HB.out.size)
      by_cases h0 : 0 < k
      · rw [nextAt_end _ _ h0] at hnx
        subst hnx
        have hk0 : ((k : Int) == 0) = false := by simp; omega
        go_wp2_with fail
        go_ret
        exact ⟨rfl, hfin⟩
      · obtain rfl : k = 0 := by omega
        subst hnx
        go_wp2_with fail
        go_ret
        exact ⟨rfl, hfin⟩
end Go.Proofs.Qxb6609364a.W
