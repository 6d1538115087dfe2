import Derived.Test.Qxb6609364aB
import Derived.BigRegion
import Derived.Deep.RegionHeld3
import Derived.Laws.CopyOwn
namespace Go.Proofs.Qxb6609364a.W
open Go.RowKit Go.Deep

theorem Try.info39 : (Try.prog.info? 39).map (fun i => (i.zero, i.size, i.bytes)) = some (some (.agg #[.bool false, .bool false, .string ByteArray.empty, .pointer none]), 4, 32) := by kernel_rfl
theorem Try.info49 : (Try.prog.info? 49).map (fun i => (i.zero, i.size, i.bytes)) = some (some (.agg #[.slice none 0 0, .nilIface]), 2, 40) := by kernel_rfl

/-- Everything that the first k parts are. -/
def wilds (F P : Nat → Bool) (T : Nat → ByteArray) (CP : Nat → Option Addr) (k : Nat) : List Value := (List.range k).flatMap fun i => wildL (F i) (P i) (T i) (CP i)

theorem wilds_succ (F P : Nat → Bool) (T : Nat → ByteArray) (CP : Nat → Option Addr) (k : Nat) (c : Option Addr) : wilds F P T (fun i => if i = k then c else CP i) (k + 1) = wilds F P T CP k ++ wildL (F k) (P k) (T k) c := by
  unfold wilds
  rw [List.range_succ, List.flatMap_append]
  congr 1
  · rw [List.flatMap_def, List.flatMap_def]
    congr 1
    refine List.map_congr_left fun i hi => ?_
    have : i ≠ k := by have := List.mem_range.1 hi; omega
    simp [this]
  · simp

theorem own_ge {w : World} {base : Nat} {e : TypeId} {size : Nat} {v : Value} {n : Nat} {xs : List Value} (h : w.ownsRow base e size v n xs) : ∀ k, v.ownBlock = some k → base ≤ k := by
  intro k hk
  rcases h.2 with ⟨rfl, _⟩ | ⟨g, cap, cur, rfl, hg, _⟩
  · simp [Value.ownBlock] at hk
  · simp [Value.ownBlock] at hk; omega

theorem wildL_one {f p : Bool} {t : ByteArray} {c : Option Addr} : ∀ u ∈ wildL f p t c, u.oneCell' = true := by
  intro u hu
  simp [wildL] at hu
  rcases hu with rfl | rfl | rfl | rfl <;> rfl

theorem wildL_cell {w : World} {f p : Bool} {t : ByteArray} {c : Option Addr} {ty : TypeId} {n : Nat} (hn : n = w.heap.size) : ∀ j u, (wildL f p t c)[j]? = some u → (w.alloc (.cells #[.bool f, .bool p, .string t, .pointer c] ty)).cell? ((⟨n, 0, none⟩ : Addr).add j) = some u := by
  intro j u hu
  have : (w.alloc (.cells #[.bool f, .bool p, .string t, .pointer c] ty)).cell? ⟨n, j, none⟩ = some u := by
    rw [World.cell?_alloc_at _ _ _ _ hn]
    simpa [wildL] using hu
  cases j <;> simpa [Addr.add] using this

theorem own_below {w w' : World} {base B : Nat} {e : TypeId} {size : Nat} {v : Value} {n : Nat} {xs : List Value} (h : w.ownsRow base e size v n xs) (hb : Below B w w') (hlt : ∀ k, v.ownBlock = some k → k < B) : w'.ownsRow base e size v n xs := by
  obtain ⟨h1, h2⟩ := h
  refine ⟨h1, ?_⟩
  rcases h2 with h2 | ⟨g, cap, cur, hv, hg, hh, r⟩
  · exact Or.inl h2
  · subst hv
    exact Or.inr ⟨g, cap, cur, rfl, hg, by rw [hb.block g (hlt g rfl)]; exact hh, r⟩

/-- The row of segments as it stands in the inner loop. -/
def SegRow (w : World) (g n : Nat) : Prop := ∃ cs : Array Value, cs.size = n ∧ w.heap[g]? = some (.cells cs 49 (0, 0))

theorem SegRow.cell {w : World} {g n : Nat} (h : SegRow w g n) (j : Nat) (hj : j < n) : ∃ v, w.cell? ⟨g, j, none⟩ = some v := by
  obtain ⟨cs, h1, h2⟩ := h
  exact ⟨cs[j], by simp [World.cell?, h2]⟩
theorem SegRow.free {w : World} {g n : Nat} (h : SegRow w g n) (j : Nat) : w.frozen? ⟨g, j, none⟩ = false := by
  obtain ⟨cs, h1, h2⟩ := h
  simp [World.frozen?, h2]
theorem SegRow.set {w : World} {g n : Nat} (h : SegRow w g n) (j : Nat) (u : Value) : SegRow (w.setCell ⟨g, j, none⟩ u) g n := by
  obtain ⟨cs, h1, h⟩ := h
  have hlt := lt_of_block h
  have h' : w.heap[g] = .cells cs 49 (0, 0) := by simpa [Array.getElem?_eq_getElem hlt] using h
  refine ⟨cs.setIfInBounds j u, by simpa using h1, ?_⟩
  show (w.heap.modify g _)[g]? = _
  rw [Array.getElem?_eq_getElem (by simpa using hlt), Array.getElem_modify_self, h']
  rfl

theorem lt_of_cell {w : World} {b o : Nat} {v : Value} (h : w.cell? ⟨b, o, none⟩ = some v) : b < w.heap.size := by
  rcases Nat.lt_or_ge b w.heap.size with h' | h'
  · exact h'
  · simp [World.cell?, Array.getElem?_eq_none h'] at h

set_option maxHeartbeats 2000000 in
set_option maxRecDepth 100000 in
theorem newArn_any (w : World) (px un : Bool) (fi : Int) (s : ByteArray) (fa pa ta sa : Option Addr) (n fc pc tc sc : Nat) (F P : Nat → Bool) (T : Nat → ByteArray) (SA : Nat → Option Addr) (SL SC : Nat → Nat) (A2 : Nat → Nat → Option Addr) (L2 C2 : Nat → Nat → Nat)
    (HF : Cells w fa n (fun i => .bool (F i))) (HP : Cells w pa n (fun i => .bool (P i))) (HT : Cells w ta n (fun i => .string (T i))) (HS : Cells w sa n (fun i => .slice (SA i) (SL i) (SC i)))
    (HI : ∀ i, i < n → Cells w (SA i) (SL i) (fun j => .slice (A2 i j) (L2 i j) (C2 i j))) (hn : n ≤ 6) (hsm : ∀ i, i < n → SL i ≤ 65536) :
    Calls Try.prog 6 #[.bool px, .bool un, .int .i8 fi, .string s, .slice fa n fc, .slice pa n pc, .slice ta n tc, .slice sa n sc] w fun e w' =>
      ∃ (a : Option Addr) (c : Nat) (CP : Nat → Option Addr), e = .returned (.agg #[.bool px, .bool un, .int .i8 fi, .string s, .slice a n c]) ∧ w'.ownsRow (w.heap.size + 1) 39 4 (.slice a n c) n (wilds F P T CP n) ∧ Below w.heap.size w w' := by
  have HF' : Hid (Cells w fa n (fun i => .bool (F i))) := HF
  have HP' : Hid (Cells w pa n (fun i => .bool (P i))) := HP
  have HT' : Hid (Cells w ta n (fun i => .string (T i))) := HT
  have HS' : Hid (Cells w sa n (fun i => .slice (SA i) (SL i) (SC i))) := HS
  have HI' : Hid (∀ i, i < n → Cells w (SA i) (SL i) (fun j => .slice (A2 i j) (L2 i j) (C2 i j))) := HI
  have hsm' : Hid (∀ i, i < n → SL i ≤ 65536) := hsm
  clear HF HP HT HS HI hsm
  obtain ⟨i49, hi49, hz49, hs49, hb49⟩ := info_parts Try.info49
  obtain ⟨i39, hi39, hz39, hs39, hb39⟩ := info_parts Try.info39
  have hneq : ∀ (a : Option Addr) (l c : Nat) (w : World), (binOp .neq 43 (.slice a l c) (.slice none 0 0)).run Try.prog w = .ok (.bool (!a.isNone)) w := by
    intro a l c w
    exact run_neq_slice_nil_any w 43 44 a l c 0 0 Try.underlying43
  go_enter Try.func6, Try.ntmps6
  go_wp2
  go_loopw [17, 18, 19, 20, 21, 24] (fun v _ _ _ _ i wr => ∃ (k : Nat) (CP : Nat → Option Addr), k ≤ n ∧ i = .int .i64 k ∧ wr.ownsRow (w.heap.size + 1) 39 4 v k (wilds F P T CP k) ∧ Below (w.heap.size + 1) (w.alloc (.cells #[.bool false, .bool false, .int .i8 0, .string ByteArray.empty, .slice none 0 0] 30)) wr) (fun _ _ _ _ _ i _ => n - (intOf i).toNat)
  case atStart => exact ⟨0, fun _ => none, Nat.zero_le _, rfl, World.ownsRow_nil _ _ _ _, Below.refl _ _⟩
  case round =>
    rename World => wA
    obtain ⟨k, CP, hk, rfl, hown, hbel⟩ := hrel
    by_cases hlt : k < n
    · obtain ⟨fb, fo, hfe, hfc⟩ := HF'.out k hlt
      obtain ⟨pb, po, hpe, hpc⟩ := HP'.out k hlt
      obtain ⟨tb, to, hte, htc⟩ := HT'.out k hlt
      obtain ⟨sb, so, hse, hsc⟩ := HS'.out k hlt
      subst hfe hpe hte hse
      have hfl := lt_of_cell hfc
      have hpl := lt_of_cell hpc
      have htl := lt_of_cell htc
      have hsl := lt_of_cell hsc
      have hsz : w.heap.size + 1 ≤ wA.heap.size := by have := hbel.size; simpa using this
      have hfc' : wA.cell? ⟨fb, fo + k, none⟩ = some (.bool (F k)) := by rw [hbel.cell (by exact Nat.lt_succ_of_lt hfl), World.cell?_alloc_past _ _ _ hfl]; exact hfc
      have hpc' : wA.cell? ⟨pb, po + k, none⟩ = some (.bool (P k)) := by rw [hbel.cell (by exact Nat.lt_succ_of_lt hpl), World.cell?_alloc_past _ _ _ hpl]; exact hpc
      have htc' : wA.cell? ⟨tb, to + k, none⟩ = some (.string (T k)) := by rw [hbel.cell (by exact Nat.lt_succ_of_lt htl), World.cell?_alloc_past _ _ _ htl]; exact htc
      have hsc' : wA.cell? ⟨sb, so + k, none⟩ = some (.slice (SA k) (SL k) (SC k)) := by rw [hbel.cell (by exact Nat.lt_succ_of_lt hsl), World.cell?_alloc_past _ _ _ hsl]; exact hsc
      clear hfc hpc htc hsc
      have l1 : fb < wA.heap.size := by omega
      have l2 : pb < wA.heap.size := by omega
      have l3 : tb < wA.heap.size := by omega
      have l4 : sb < wA.heap.size := by omega
      go_wp2
      go_region
      cases hsa : SA k with
      | none =>
        rw [hsa] at hsc'
        clear hsa
        go_wp2_with (at_builtin; refine wpList_append_own _ rfl (.tmp 75) (.tmp 77) 28 rfl (w.heap.size + 1) 39 i39 _ 4 32 Try.underlying28 hi39 hz39 hs39 hb39 rfl (by decide) u17 k _ rfl (((hown.alloc _).alloc _).drew) ⟨wA.heap.size + 1, 0, none⟩ 1 1 (wildL (F k) (P k) (T k) none) rfl rfl ?c1 ?c2 ?c3 ?c4 ?c5 ?_)
        case c1 => exact wildL_cell (w := wA.alloc _) (by simp)
        case c2 => exact wildL_one
        case c3 => unfold maxLen; omega
        case c4 => omega
        case c5 => simp; omega
        intro v' w1 hown1 hgrow _
        have hown2 := hown1
        rw [← wilds_succ] at hown2
        have hbel2 := (((hbel.alloc hsz _).alloc (by simp; omega) _).drew).grown hgrow (by simp; omega) (own_ge hown)
        clear hown1 hgrow
        go_wp2
        go_roundw
        case rel => exact ⟨k + 1, _, by omega, by go_num, hown2, hbel2⟩
        case measure => simp [intOf]; omega
      | some ad =>
        have hsmk := hsm'.out k hlt
        have hmk : ∀ w : World, (Instr.makeSlice 45 (.int .i64 (SL k : Int)) (.int .i64 (SL k : Int))).run Try.prog w = .ok (.slice (some ⟨w.heap.size, 0, none⟩) (SL k) (SL k)) (w.alloc (.cells (madeCells #[.slice none 0 0, .nilIface] (SL k * 2)) 49)) := by
          intro w
          have h := run_make (P := Try.prog) w 45 49 i49 _ Try.underlying45 hi49 hz49 .i64 .i64 (SL k) (SL k) (by omega) (Int.le_refl _) (by rw [hb49]; omega) (by omega)
          rw [hs49] at h
          simpa [Value.cells] using h
        rw [hsa] at hsc'
        go_wp2
        go_loopw [21, 56] (fun _ i wq => ∃ j : Nat, j ≤ SL k ∧ i = .int .i64 j ∧ SegRow wq (wA.heap.size + 1) (SL k * 2) ∧ Below (wA.heap.size + 1) (wA.alloc (.cells #[.bool (F k), .bool (P k), .string (T k), .pointer none] 39)) wq) (fun _ i _ => SL k - (intOf i).toNat)
        case atStart =>
          refine ⟨0, Nat.zero_le _, rfl, ⟨madeCells #[.slice none 0 0, .nilIface] (SL k * 2), size_madeCells _ _, ?_⟩, ((Below.refl _ _).alloc (by simp) _).drew⟩
          have := heap_alloc_new (wA.alloc (.cells #[.bool (F k), .bool (P k), .string (T k), .pointer none] 39)) (.cells (madeCells #[.slice none 0 0, .nilIface] (SL k * 2)) 49)
          rw [show (wA.alloc (.cells #[.bool (F k), .bool (P k), .string (T k), .pointer none] 39)).heap.size = wA.heap.size + 1 by simp] at this
          exact this
        case round =>
          rename World => wq
          obtain ⟨j, hj, rfl, hrow, hbq⟩ := hrel
          have hWS : ∀ b o, b < wA.heap.size → wq.cell? ⟨b, o, none⟩ = wA.cell? ⟨b, o, none⟩ := fun b o h => by
            rw [hbq.cell (by exact Nat.lt_succ_of_lt h), World.cell?_alloc_past _ _ _ h]
          have hsq : wq.cell? ⟨sb, so + k, none⟩ = some (.slice (some ad) (SL k) (SC k)) := by rw [hWS _ _ l4]; exact hsc'
          have HWS : Hid (∀ b o, b < wA.heap.size → wq.cell? ⟨b, o, none⟩ = wA.cell? ⟨b, o, none⟩) := hWS
          clear hWS
          by_cases hjl : j < SL k
          · obtain ⟨b2, o2, he2, hc2⟩ := HI'.out k hlt j hjl
            rw [hsa] at he2
            obtain rfl : ad = ⟨b2, o2, none⟩ := Option.some.inj he2
            have hl2 := lt_of_cell hc2
            have l5 : b2 < wA.heap.size := by omega
            have hc2' : wq.cell? ⟨b2, o2 + j, none⟩ = some (.slice (A2 k j) (L2 k j) (C2 k j)) := by
              rw [HWS.out _ _ l5, hbel.cell (by exact Nat.lt_succ_of_lt hl2), World.cell?_alloc_past _ _ _ hl2]; exact hc2
            obtain ⟨x0, hx0⟩ := hrow.cell (j * 2) (by omega)
            obtain ⟨x1, hx1⟩ := hrow.cell (j * 2 + 1) (by omega)
            have hf0 := hrow.free (j * 2)
            have hf1 := hrow.free (j * 2 + 1)
            clear he2 hsa hc2
            go_wp2
            go_roundw
            case rel => exact ⟨j + 1, by omega, by go_num, (hrow.set _ _).set _ _, (hbq.setCell (Nat.le_refl _) _).setCell (Nat.le_refl _) _⟩
            case measure => simp [intOf]; omega
          · obtain rfl : j = SL k := by omega
            have hownQ := own_below (hown.alloc (.cells #[.bool (F k), .bool (P k), .string (T k), .pointer none] 39)) hbq (fun g hg => by have := hown.lt g hg; omega)
            have hlt' : ∀ g, u17.ownBlock = some g → w.heap.size + 1 ≤ g ∧ g < wA.heap.size := hown.lt
            have hszq : wA.heap.size + 1 ≤ wq.heap.size := by have := hbq.size; simpa using this
            have q0 : wq.cell? ⟨wA.heap.size, 0, none⟩ = some (.bool (F k)) := by rw [hbq.cell (by exact Nat.lt_succ_self _)]; simp
            have q1 : wq.cell? ⟨wA.heap.size, 1, none⟩ = some (.bool (P k)) := by rw [hbq.cell (by exact Nat.lt_succ_self _)]; simp
            have q2 : wq.cell? ⟨wA.heap.size, 2, none⟩ = some (.string (T k)) := by rw [hbq.cell (by exact Nat.lt_succ_self _)]; simp
            have q3 : wq.cell? ⟨wA.heap.size, 3, none⟩ = some (.pointer none) := by rw [hbq.cell (by exact Nat.lt_succ_self _)]; simp
            have f3 : wq.frozen? ⟨wA.heap.size, 3, none⟩ = false := by rw [hbq.frozen (by exact Nat.lt_succ_self _)]; simp
            have l6 : wA.heap.size < wq.heap.size := by omega
            clear hj hjl HWS hsa
            have hne : u17.ownBlock ≠ some wA.heap.size := fun h => by have := hlt' _ h; omega
            have hownS := ownsRow_setCell_other hownQ (a := ⟨wA.heap.size, 3, none⟩) hne (.pointer (some ⟨wq.heap.size, 0, none⟩))
            clear hne hownQ
            go_wp2_with (at_builtin; refine wpList_append_own _ rfl (.tmp 75) (.tmp 77) 28 rfl (w.heap.size + 1) 39 i39 _ 4 32 Try.underlying28 hi39 hz39 hs39 hb39 rfl (by decide) u17 k _ rfl ((hownS.alloc _).alloc _) ⟨wq.heap.size + 1, 0, none⟩ 1 1 (wildL (F k) (P k) (T k) (some ⟨wq.heap.size, 0, none⟩)) rfl rfl ?d1 ?d2 ?d3 ?d4 ?d5 ?_)
            case d1 => exact wildL_cell (by simp)
            case d2 => exact wildL_one
            case d3 => unfold maxLen; omega
            case d4 => omega
            case d5 => simp; omega
            intro v' w1 hown1 hgrow _
            have hown2 := hown1
            rw [← wilds_succ] at hown2
            have hbel1 := ((hbel.alloc hsz (.cells #[.bool (F k), .bool (P k), .string (T k), .pointer none] 39)).trans (hbq.mono (by omega))).setCell (p := ⟨wA.heap.size, 3, none⟩) hsz (.pointer (some ⟨wq.heap.size, 0, none⟩))
            have hbel2 := ((hbel1.alloc (by simp; omega) _).alloc (by simp; omega) _).grown hgrow (by simp; omega) (own_ge hown)
            clear hown1 hgrow hbel1 hownS
            go_wp2
            go_roundw
            case rel => exact ⟨k + 1, _, by omega, by go_num, hown2, hbel2⟩
            case measure => simp [intOf]; omega
    · obtain rfl : k = n := by omega
      have hr0 : wA.heap[w.heap.size]? = some (.cells #[.bool false, .bool false, .int .i8 0, .string ByteArray.empty, .slice none 0 0] 30 (0, 0)) := by
        rw [hbel.block _ (Nat.lt_succ_self _)]; exact heap_alloc_new _ _
      have hbw : Below w.heap.size w wA := ((Below.refl w.heap.size w).alloc (Nat.le_refl _) _).trans (hbel.mono (Nat.le_succ _))
      obtain ⟨pa', pc', rfl⟩ : ∃ a c, u17 = .slice a k c := by
        rcases hown.2 with ⟨rfl, rfl⟩ | ⟨g, cap, cur, rfl, _⟩
        · exact ⟨_, _, rfl⟩
        · exact ⟨_, _, rfl⟩
      have c0 : wA.cell? ⟨w.heap.size, 0, none⟩ = some (.bool false) := by simp [World.cell?, hr0]
      have c1 : wA.cell? ⟨w.heap.size, 1, none⟩ = some (.bool false) := by simp [World.cell?, hr0]
      have c2 : wA.cell? ⟨w.heap.size, 2, none⟩ = some (.int .i8 0) := by simp [World.cell?, hr0]
      have c3 : wA.cell? ⟨w.heap.size, 3, none⟩ = some (.string ByteArray.empty) := by simp [World.cell?, hr0]
      have c4 : wA.cell? ⟨w.heap.size, 4, none⟩ = some (.slice none 0 0) := by simp [World.cell?, hr0]
      have e0 : wA.frozen? ⟨w.heap.size, 0, none⟩ = false := by simp [World.frozen?, hr0]
      have e1 : wA.frozen? ⟨w.heap.size, 1, none⟩ = false := by simp [World.frozen?, hr0]
      have e2 : wA.frozen? ⟨w.heap.size, 2, none⟩ = false := by simp [World.frozen?, hr0]
      have e3 : wA.frozen? ⟨w.heap.size, 3, none⟩ = false := by simp [World.frozen?, hr0]
      have e4 : wA.frozen? ⟨w.heap.size, 4, none⟩ = false := by simp [World.frozen?, hr0]
      clear hr0 hlt hk
      go_wp2
      refine bodyPost_ret (v := .agg #[.bool px, .bool un, .int .i8 fi, .string s, .slice pa' k pc']) (by simp [results, Try.results6, go_sem, c0, c1, c2, c3, c4]) rfl ⟨_, _, CP, rfl, ?_, ?_⟩
      · exact ownsRow_setCell_below (ownsRow_setCell_below (ownsRow_setCell_below (ownsRow_setCell_below (ownsRow_setCell_below hown (Nat.lt_succ_self _) _) (Nat.lt_succ_self _) _) (Nat.lt_succ_self _) _) (Nat.lt_succ_self _) _) (Nat.lt_succ_self _) _
      · exact ((((hbw.setCell (Nat.le_refl _) _).setCell (Nat.le_refl _) _).setCell (Nat.le_refl _) _).setCell (Nat.le_refl _) _).setCell (Nat.le_refl _) _
end Go.Proofs.Qxb6609364a.W
