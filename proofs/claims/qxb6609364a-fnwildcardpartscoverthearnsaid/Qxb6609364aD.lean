import Derived.Test.Qxb6609364aC
import Derived.Deep.AppendLies
import Derived.Deep.RegionLaw
namespace Go.Proofs.Qxb6609364a.W
open Go.RowKit Go.Deep

theorem Try.info41 : (Try.prog.info? 41).map (fun i => (i.zero, i.size, i.bytes)) = some (some (.agg #[.bool false, .bool false, .string ByteArray.empty, .pointer none, .int .i64 0]), 5, 40) := by kernel_rfl

def partsL (F P : Nat → Bool) (T : Nat → ByteArray) (CP : Nat → Option Addr) (S : Nat → Int) (k : Nat) : List Value := (List.range k).flatMap fun i => partL (F i) (P i) (T i) (CP i) (S i)
theorem partsL_succ (F P : Nat → Bool) (T : Nat → ByteArray) (CP : Nat → Option Addr) (S : Nat → Int) (k : Nat) : partsL F P T CP S (k + 1) = partsL F P T CP S k ++ partL (F k) (P k) (T k) (CP k) (S k) := by
  unfold partsL
  rw [List.range_succ, List.flatMap_append]
  simp

theorem flat_at {β : Type} (f : Nat → List β) (c : Nat) (hf : ∀ i, (f i).length = c) (n k j : Nat) (hk : k < n) (hj : j < c) : ((List.range n).flatMap f)[k * c + j]? = (f k)[j]? := by
  induction n with
  | zero => omega
  | succ n ih =>
    have hl : ((List.range n).flatMap f).length = n * c := by
      clear ih hk
      induction n with
      | zero => simp
      | succ n ih => rw [List.range_succ, List.flatMap_append]; simp [ih, hf]; rw [Nat.succ_mul]
    rw [List.range_succ, List.flatMap_append]
    rcases Nat.lt_or_eq_of_le (Nat.le_of_lt_succ hk) with h | rfl
    · rw [List.getElem?_append_left, ih h]
      rw [hl]
      have : (k + 1) * c ≤ n * c := Nat.mul_le_mul_right c h
      rw [Nat.succ_mul] at this
      omega
    · rw [List.getElem?_append_right (by rw [hl]; omega), hl, Nat.add_sub_cancel_left]
      simp

theorem wilds_at (F P : Nat → Bool) (T : Nat → ByteArray) (CP : Nat → Option Addr) (n k j : Nat) (hk : k < n) (hj : j < 4) : (wilds F P T CP n)[k * 4 + j]? = (wildL (F k) (P k) (T k) (CP k))[j]? :=
  flat_at _ 4 (fun _ => rfl) n k j hk hj
theorem partsL_at (F P : Nat → Bool) (T : Nat → ByteArray) (CP : Nat → Option Addr) (S : Nat → Int) (n k j : Nat) (hk : k < n) (hj : j < 5) : (partsL F P T CP S n)[k * 5 + j]? = (partL (F k) (P k) (T k) (CP k) (S k))[j]? :=
  flat_at _ 5 (fun _ => rfl) n k j hk hj

theorem own_cell {w : World} {base : Nat} {e : TypeId} {size : Nat} {g n c : Nat} {xs : List Value} (h : w.ownsRow base e size (.slice (some ⟨g, 0, none⟩) n c) n xs) {j : Nat} {u : Value} (hj : xs[j]? = some u) : w.cell? ⟨g, j, none⟩ = some u := by
  have := h.cells (g := g) rfl j u hj
  cases j <;> simpa [Addr.add] using this

/-- The five cells of the pattern's box, in a world that has grown. -/
theorem box_cells {w w1 : World} {px un : Bool} {fi : Int} {s : ByteArray} {v : Value} (h : Below (w.heap.size + 1) (w.alloc (.cells #[.bool px, .bool un, .int .i8 fi, .string s, v] 30)) w1) :
    w1.cell? ⟨w.heap.size, 0, none⟩ = some (.bool px) ∧ w1.cell? ⟨w.heap.size, 1, none⟩ = some (.bool un) ∧ w1.cell? ⟨w.heap.size, 2, none⟩ = some (.int .i8 fi) ∧ w1.cell? ⟨w.heap.size, 3, none⟩ = some (.string s) ∧ w1.cell? ⟨w.heap.size, 4, none⟩ = some v := by
  refine ⟨?_, ?_, ?_, ?_, ?_⟩ <;> (rw [h.cell (by exact Nat.lt_succ_self _)]; simp)

theorem partL_one {f p : Bool} {t : ByteArray} {c : Option Addr} {sl : Int} : ∀ u ∈ partL f p t c sl, u.oneCell' = true := by
  intro u hu
  simp [partL] at hu
  rcases hu with rfl | rfl | rfl | rfl | rfl <;> rfl
theorem partL_cell {w : World} {f p : Bool} {t : ByteArray} {c : Option Addr} {sl : Int} {ty : TypeId} {n : Nat} (hn : n = w.heap.size) : ∀ j u, (partL f p t c sl)[j]? = some u → (w.alloc (.cells #[.bool f, .bool p, .string t, .pointer c, .int .i64 sl] ty)).cell? ((⟨n, 0, none⟩ : Addr).add j) = some u := by
  intro j u hu
  have : (w.alloc (.cells #[.bool f, .bool p, .string t, .pointer c, .int .i64 sl] ty)).cell? ⟨n, j, none⟩ = some u := by
    rw [World.cell?_alloc_at _ _ _ _ hn]
    simpa [partL] using hu
  cases j <;> simpa [Addr.add] using this

theorem own_mono {w : World} {base base' : Nat} {e : TypeId} {size : Nat} {v : Value} {n : Nat} {xs : List Value} (h : w.ownsRow base e size v n xs) (hb : base' ≤ base) : w.ownsRow base' e size v n xs := by
  refine ⟨h.1, ?_⟩
  rcases h.2 with h2 | ⟨g, cap, cur, hv, hg, r⟩
  · exact Or.inl h2
  · exact Or.inr ⟨g, cap, cur, hv, Nat.le_trans hb hg, r⟩

theorem grow_keep {W w2 : World} {g n c b o : Nat} (h : W.grownBy w2 (Value.ownBlock (.slice (some ⟨g, 0, none⟩) n c))) (hb : b < W.heap.size) (hne : b ≠ g) : w2.cell? ⟨b, o, none⟩ = W.cell? ⟨b, o, none⟩ :=
  h.cell_far ⟨b, o, none⟩ hb (by simpa [Value.ownBlock] using hne)

set_option maxHeartbeats 2000000 in
set_option maxRecDepth 100000 in
theorem wparts_e (w : World) (px un : Bool) (fi : Int) (s : ByteArray) (b0 : Nat) (pa : Option Addr) (n pc : Nat) (F P : Nat → Bool) (T : Nat → ByteArray) (CP : Nat → Option Addr)
    (HW : w.ownsRow b0 39 4 (.slice pa n pc) n (wilds F P T CP n)) (hn : n ≤ 6) (h0 : 0 < n → 0 ≤ fi) (h1 : fi ≤ 127) (he : s.toList.isEmpty = true) :
    Calls Try.prog 11 #[.agg #[.bool px, .bool un, .int .i8 fi, .string s, .slice pa n pc]] w fun e w' => ∃ g c, e = .returned (.slice (some ⟨g, 0, none⟩) n c) ∧ w'.ownsRow w.heap.size 41 5 (.slice (some ⟨g, 0, none⟩) n c) n (partsL F P T CP (slotOf fi n) n) ∧ Below w.heap.size w w' := by
  have HW' : Hid (w.ownsRow b0 39 4 (.slice pa n pc) n (wilds F P T CP n)) := HW
  clear HW
  obtain ⟨i41, hi41, hz41, hs41, hb41⟩ := info_parts Try.info41
  go_enter Try.func11, Try.ntmps11
  go_wp2_with (refine wpList_make_own _ rfl _ _ 33 rfl (w.heap.size + 1) 41 i41 _ 5 Try.underlying33 hi41 hz41 hs41 .i64 .i64 _ (n + 1) rfl rfl (by omega) (by rw [hb41]; omega) (by unfold maxLen; omega) (by simp) ?_; intro w1 hown1 hgrow1; have hb1 := (Below.refl (w.heap.size + 1) _).grown hgrow1 (by simp) (by simp); obtain ⟨q0, q1, q2, q3, q4⟩ := box_cells hb1)
  go_loopw [3, 4, 5, 24] (fun v _ _ i wr => ∃ (k g c : Nat), k ≤ n ∧ i = .int .i64 k ∧ v = .slice (some ⟨g, 0, none⟩) k c ∧ wr.ownsRow (w.heap.size + 1) 41 5 (.slice (some ⟨g, 0, none⟩) k c) k (partsL F P T CP (slotOf fi n) k) ∧ Below (w.heap.size + 1) (w.alloc (.cells #[.bool px, .bool un, .int .i8 fi, .string s, .slice pa n pc] 30)) wr) (fun _ _ _ i _ => n - (intOf i).toNat)
  case atStart => exact ⟨0, _, _, Nat.zero_le _, rfl, rfl, by simpa [partsL] using hown1, hb1⟩
  case round =>
    rename World => wA
    obtain ⟨k, g, c, hk, rfl, rfl, hown, hbel⟩ := hrel
    obtain ⟨p0, p1, p2, p3, p4⟩ := box_cells hbel
    have hsz : w.heap.size + 1 ≤ wA.heap.size := by have := hbel.size; simpa using this
    by_cases hlt : k < n
    · obtain ⟨sg, scp, hpe, _, hsl⟩ := HW'.out.form (by omega)
      have h0' := h0 (by omega)
      simp only [Value.slice.injEq] at hpe
      obtain ⟨rfl, _, rfl⟩ := hpe
      have r : ∀ j u, j < 4 → (wildL (F k) (P k) (T k) (CP k))[j]? = some u → wA.cell? ⟨sg, k * 4 + j, none⟩ = some u := fun j u hj hu => by
        rw [hbel.cell (by exact Nat.lt_succ_of_lt hsl), World.cell?_alloc_past _ _ _ hsl]
        exact own_cell HW'.out (by rw [wilds_at _ _ _ _ _ _ _ hlt hj]; exact hu)
      have r0 : wA.cell? ⟨sg, k * 4, none⟩ = some (.bool (F k)) := r 0 _ (by omega) rfl
      have r1 : wA.cell? ⟨sg, k * 4 + 1, none⟩ = some (.bool (P k)) := r 1 _ (by omega) rfl
      have r2 : wA.cell? ⟨sg, k * 4 + 2, none⟩ = some (.string (T k)) := r 2 _ (by omega) rfl
      have r3 : wA.cell? ⟨sg, k * 4 + 3, none⟩ = some (.pointer (CP k)) := r 3 _ (by omega) rfl
      clear r
      have l0 : w.heap.size < wA.heap.size := by omega
      have l1 : w.heap.size < wA.heap.size + 1 := by omega
      have l2 : w.heap.size < wA.heap.size + 1 + 1 := by omega
      have l3 : w.heap.size < wA.heap.size + 1 + 1 + 1 := by omega
      have l4 : wA.heap.size < wA.heap.size + 1 + 1 + 1 := by omega
      have hglt := hown.lt g rfl
      have hne1 : w.heap.size ≠ g := by omega
      have hne2 : wA.heap.size ≠ g := by omega
      go_wp2
      go_region_held3 (fun w' => w'.cell? ⟨w.heap.size, 0, none⟩ = some (.bool px) ∧ w'.cell? ⟨w.heap.size, 1, none⟩ = some (.bool un) ∧ w'.cell? ⟨w.heap.size, 2, none⟩ = some (.int .i8 fi) ∧ w'.cell? ⟨w.heap.size, 3, none⟩ = some (.string s) ∧ w'.cell? ⟨w.heap.size, 4, none⟩ = some (.slice (some ⟨sg, 0, none⟩) n pc) ∧ w'.cell? ⟨wA.heap.size, 0, none⟩ = some (.bool (F k)) ∧ w'.cell? ⟨wA.heap.size, 1, none⟩ = some (.bool (P k)) ∧ w'.cell? ⟨wA.heap.size, 2, none⟩ = some (.string (T k)) ∧ w'.cell? ⟨wA.heap.size, 3, none⟩ = some (.pointer (CP k))) (first | (simp [go_sem, World.cell?_alloc_past, *]; done) | (simp [go_sem, grow_keep hgrow2, *]; done)) (first | (refine step_append_lies _ rfl (.tmp 29) (.tmp 35) 33 rfl (w.heap.size + 1) 41 i41 _ 5 40 Try.underlying33 hi41 hz41 hs41 hb41 rfl (by decide) _ k _ rfl (by exact ((hown.alloc _).alloc _).alloc _) ⟨wA.heap.size + 2, 0, none⟩ 1 1 (partL (F k) (P k) (T k) (CP k) (slotOf fi n k)) rfl rfl (by exact partL_cell (by simp)) partL_one (by omega) (by unfold maxLen; omega) (by omega) (by simp; omega) _ rfl ?_; intro g' c' w2 hown2 hgrow2 _ _) | (go_at_call 12; refine (slot_any _ _ _ _ _ _ _ _ _ h0' h1 hlt hn).mono ?_; rintro e w' ⟨rfl, cc, rfl⟩))
      go_wp2
      have hbel2 := (((hbel.alloc hsz _).alloc (by simp; omega) _).alloc (by simp; omega) _).drew.grown hgrow2 (by simp; omega) (own_ge hown)
      rw [← partsL_succ] at hown2
      go_roundw
      case rel => exact ⟨k + 1, g', c', by omega, by go_num, rfl, hown2, hbel2⟩
      case measure => simp [intOf]; omega
    · obtain rfl : k = n := by omega
      clear hlt hk
      have hbw : Below w.heap.size w wA := ((Below.refl w.heap.size w).alloc (Nat.le_refl _) _).trans (hbel.mono (Nat.le_succ _))
      go_wp2
      go_ret
      exact ⟨g, c, rfl, own_mono hown (Nat.le_succ _), hbw⟩
set_option maxHeartbeats 2000000 in
set_option maxRecDepth 100000 in
theorem wparts_h (w : World) (px un : Bool) (fi : Int) (s : ByteArray) (b0 : Nat) (pa : Option Addr) (n pc : Nat) (F P : Nat → Bool) (T : Nat → ByteArray) (CP : Nat → Option Addr)
    (HW : w.ownsRow b0 39 4 (.slice pa n pc) n (wilds F P T CP n)) (hn : n ≤ 6) (h0 : 0 < n → 0 ≤ fi) (h1 : fi ≤ 127) (he : s.toList.isEmpty = false) :
    Calls Try.prog 11 #[.agg #[.bool px, .bool un, .int .i8 fi, .string s, .slice pa n pc]] w fun e w' => ∃ g c, e = .returned (.slice (some ⟨g, 0, none⟩) (1 + n) c) ∧ w'.ownsRow w.heap.size 41 5 (.slice (some ⟨g, 0, none⟩) (1 + n) c) (1 + n) (partL false true s none 6 ++ partsL F P T CP (slotOf fi n) n) ∧ Below w.heap.size w w' := by
  have HW' : Hid (w.ownsRow b0 39 4 (.slice pa n pc) n (wilds F P T CP n)) := HW
  clear HW
  obtain ⟨i41, hi41, hz41, hs41, hb41⟩ := info_parts Try.info41
  go_enter Try.func11, Try.ntmps11
  go_wp2_with (first | (refine wpList_make_own _ rfl _ _ 33 rfl (w.heap.size + 1) 41 i41 _ 5 Try.underlying33 hi41 hz41 hs41 .i64 .i64 _ (n + 1) rfl rfl (by omega) (by rw [hb41]; omega) (by unfold maxLen; omega) (by simp) ?_; intro w1 hown1 hgrow1; have hb1 := (Below.refl (w.heap.size + 1) _).grown hgrow1 (by simp) (by simp); obtain ⟨q0, q1, q2, q3, q4⟩ := box_cells hb1) | (at_builtin; refine wpList_append_lies _ rfl (.tmp 14) (.tmp 19) 33 rfl (w.heap.size + 1) 41 i41 _ 5 40 Try.underlying33 hi41 hz41 hs41 hb41 rfl (by decide) (.slice (some ⟨w.heap.size + 1, 0, none⟩) 0 (n + 1)) 0 [] rfl (by simpa using hown1.alloc _) ⟨w1.heap.size, 0, none⟩ 1 1 (partL false true s none 6) rfl rfl (partL_cell rfl) partL_one (by omega) (by unfold maxLen; omega) (by omega) (by have := hb1.size; simp at this; simp; omega) _ rfl ?_; intro gh ch wh hownh hgrowh _ _; have hbh := (hb1.alloc (by have := hb1.size; simpa using this) _).grown hgrowh (by have := hb1.size; simp at this; simp; omega) (by simp [Value.ownBlock]); obtain ⟨z0, z1, z2, z3, z4⟩ := box_cells hbh))
  go_loopw [3, 4, 5, 24] (fun v _ _ i wr => ∃ (k g c : Nat), k ≤ n ∧ i = .int .i64 k ∧ v = .slice (some ⟨g, 0, none⟩) (1 + k) c ∧ wr.ownsRow (w.heap.size + 1) 41 5 (.slice (some ⟨g, 0, none⟩) (1 + k) c) (1 + k) (partL false true s none 6 ++ partsL F P T CP (slotOf fi n) k) ∧ Below (w.heap.size + 1) (w.alloc (.cells #[.bool px, .bool un, .int .i8 fi, .string s, .slice pa n pc] 30)) wr) (fun _ _ _ i _ => n - (intOf i).toNat)
  case atStart => exact ⟨0, _, _, Nat.zero_le _, rfl, rfl, by simpa [partsL] using hownh, hbh⟩
  case round =>
    rename World => wA
    obtain ⟨k, g, c, hk, rfl, rfl, hown, hbel⟩ := hrel
    obtain ⟨p0, p1, p2, p3, p4⟩ := box_cells hbel
    have hsz : w.heap.size + 1 ≤ wA.heap.size := by have := hbel.size; simpa using this
    by_cases hlt : k < n
    · obtain ⟨sg, scp, hpe, _, hsl⟩ := HW'.out.form (by omega)
      have h0' := h0 (by omega)
      simp only [Value.slice.injEq] at hpe
      obtain ⟨rfl, _, rfl⟩ := hpe
      have r : ∀ j u, j < 4 → (wildL (F k) (P k) (T k) (CP k))[j]? = some u → wA.cell? ⟨sg, k * 4 + j, none⟩ = some u := fun j u hj hu => by
        rw [hbel.cell (by exact Nat.lt_succ_of_lt hsl), World.cell?_alloc_past _ _ _ hsl]
        exact own_cell HW'.out (by rw [wilds_at _ _ _ _ _ _ _ hlt hj]; exact hu)
      have r0 : wA.cell? ⟨sg, k * 4, none⟩ = some (.bool (F k)) := r 0 _ (by omega) rfl
      have r1 : wA.cell? ⟨sg, k * 4 + 1, none⟩ = some (.bool (P k)) := r 1 _ (by omega) rfl
      have r2 : wA.cell? ⟨sg, k * 4 + 2, none⟩ = some (.string (T k)) := r 2 _ (by omega) rfl
      have r3 : wA.cell? ⟨sg, k * 4 + 3, none⟩ = some (.pointer (CP k)) := r 3 _ (by omega) rfl
      clear r
      have l0 : w.heap.size < wA.heap.size := by omega
      have l1 : w.heap.size < wA.heap.size + 1 := by omega
      have l2 : w.heap.size < wA.heap.size + 1 + 1 := by omega
      have l3 : w.heap.size < wA.heap.size + 1 + 1 + 1 := by omega
      have l4 : wA.heap.size < wA.heap.size + 1 + 1 + 1 := by omega
      have hglt := hown.lt g rfl
      have hne1 : w.heap.size ≠ g := by omega
      have hne2 : wA.heap.size ≠ g := by omega
      go_wp2
      go_region_held3 (fun w' => w'.cell? ⟨w.heap.size, 0, none⟩ = some (.bool px) ∧ w'.cell? ⟨w.heap.size, 1, none⟩ = some (.bool un) ∧ w'.cell? ⟨w.heap.size, 2, none⟩ = some (.int .i8 fi) ∧ w'.cell? ⟨w.heap.size, 3, none⟩ = some (.string s) ∧ w'.cell? ⟨w.heap.size, 4, none⟩ = some (.slice (some ⟨sg, 0, none⟩) n pc) ∧ w'.cell? ⟨wA.heap.size, 0, none⟩ = some (.bool (F k)) ∧ w'.cell? ⟨wA.heap.size, 1, none⟩ = some (.bool (P k)) ∧ w'.cell? ⟨wA.heap.size, 2, none⟩ = some (.string (T k)) ∧ w'.cell? ⟨wA.heap.size, 3, none⟩ = some (.pointer (CP k))) (first | (simp [go_sem, World.cell?_alloc_past, *]; done) | (simp [go_sem, grow_keep hgrow2, *]; done)) (first | (refine step_append_lies _ rfl (.tmp 29) (.tmp 35) 33 rfl (w.heap.size + 1) 41 i41 _ 5 40 Try.underlying33 hi41 hz41 hs41 hb41 rfl (by decide) _ (1 + k) _ rfl (by exact ((hown.alloc _).alloc _).alloc _) ⟨wA.heap.size + 2, 0, none⟩ 1 1 (partL (F k) (P k) (T k) (CP k) (slotOf fi n k)) rfl rfl (by exact partL_cell (by simp)) partL_one (by omega) (by unfold maxLen; omega) (by omega) (by simp; omega) _ rfl ?_; intro g' c' w2 hown2 hgrow2 _ _) | (go_at_call 12; refine (slot_any _ _ _ _ _ _ _ _ _ h0' h1 hlt hn).mono ?_; rintro e w' ⟨rfl, cc, rfl⟩))
      go_wp2
      have hbel2 := (((hbel.alloc hsz _).alloc (by simp; omega) _).alloc (by simp; omega) _).drew.grown hgrow2 (by simp; omega) (own_ge hown)
      rw [List.append_assoc, ← partsL_succ] at hown2
      go_roundw
      case rel => exact ⟨k + 1, g', c', by omega, by go_num, by rw [Nat.add_assoc], by rw [Nat.add_assoc] at hown2; exact hown2, hbel2⟩
      case measure => simp [intOf]; omega
    · obtain rfl : k = n := by omega
      clear hlt hk
      have hbw : Below w.heap.size w wA := ((Below.refl w.heap.size w).alloc (Nat.le_refl _) _).trans (hbel.mono (Nat.le_succ _))
      go_wp2
      go_ret
      exact ⟨g, c, rfl, own_mono hown (Nat.le_succ _), hbw⟩

theorem zzparts_e (w : World) (px un : Bool) (fi : Int) (s : ByteArray) (b0 : Nat) (pa : Option Addr) (n pc : Nat) (F P : Nat → Bool) (T : Nat → ByteArray) (CP : Nat → Option Addr)
    (HW : w.ownsRow b0 39 4 (.slice pa n pc) n (wilds F P T CP n)) (hn : n ≤ 6) (h0 : 0 < n → 0 ≤ fi) (h1 : fi ≤ 127) (he : s.toList.isEmpty = true) :
    Calls Try.prog 8 #[.agg #[.bool px, .bool un, .int .i8 fi, .string s, .slice pa n pc]] w fun e w' => ∃ g c, e = .returned (.slice (some ⟨g, 0, none⟩) n c) ∧ w'.ownsRow w.heap.size 41 5 (.slice (some ⟨g, 0, none⟩) n c) n (partsL F P T CP (slotOf fi n) n) ∧ Below w.heap.size w w' := by
  have HC := wparts_e (w.alloc (.cells #[.bool px, .bool un, .int .i8 fi, .string s, .slice pa n pc] 30)) px un fi s b0 pa n pc F P T CP (HW.alloc _) hn h0 h1 he
  clear HW
  go_enter Try.func8, Try.ntmps8
  go_wp2_with (go_at_call 11; refine HC.mono ?_; rintro e w' ⟨g, c, rfl, hown, hbel⟩)
  go_ret
  exact ⟨g, c, rfl, own_mono hown (by simp), ((Below.refl _ _).alloc (Nat.le_refl _) _).trans (hbel.mono (by simp))⟩

theorem zzparts_h (w : World) (px un : Bool) (fi : Int) (s : ByteArray) (b0 : Nat) (pa : Option Addr) (n pc : Nat) (F P : Nat → Bool) (T : Nat → ByteArray) (CP : Nat → Option Addr)
    (HW : w.ownsRow b0 39 4 (.slice pa n pc) n (wilds F P T CP n)) (hn : n ≤ 6) (h0 : 0 < n → 0 ≤ fi) (h1 : fi ≤ 127) (he : s.toList.isEmpty = false) :
    Calls Try.prog 8 #[.agg #[.bool px, .bool un, .int .i8 fi, .string s, .slice pa n pc]] w fun e w' => ∃ g c, e = .returned (.slice (some ⟨g, 0, none⟩) (1 + n) c) ∧ w'.ownsRow w.heap.size 41 5 (.slice (some ⟨g, 0, none⟩) (1 + n) c) (1 + n) (partL false true s none 6 ++ partsL F P T CP (slotOf fi n) n) ∧ Below w.heap.size w w' := by
  have HC := wparts_h (w.alloc (.cells #[.bool px, .bool un, .int .i8 fi, .string s, .slice pa n pc] 30)) px un fi s b0 pa n pc F P T CP (HW.alloc _) hn h0 h1 he
  clear HW
  go_enter Try.func8, Try.ntmps8
  go_wp2_with (go_at_call 11; refine HC.mono ?_; rintro e w' ⟨g, c, rfl, hown, hbel⟩)
  go_ret
  exact ⟨g, c, rfl, own_mono hown (by simp), ((Below.refl _ _).alloc (Nat.le_refl _) _).trans (hbel.mono (by simp))⟩
end Go.Proofs.Qxb6609364a.W
