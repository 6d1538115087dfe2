import Derived.Test.Qxb6609364aG
namespace Go.Proofs.Qxb6609364a.W
open Go.RowKit Go.Deep

set_option maxHeartbeats 4000000 in
set_option maxRecDepth 100000 in
theorem law_any (w : World) (a0 a1 : Bool) (fi : Int) (s : ByteArray) (fa pa ta sa : Option Addr) (fl fc pl pc tl tc sl sc : Nat) (F P : Nat → Bool) (T : Nat → ByteArray) (SA : Nat → Option Addr) (SL SC : Nat → Nat) (A2 : Nat → Nat → Option Addr) (L2 C2 : Nat → Nat → Nat)
    (HF : Cells w fa fl (fun i => .bool (F i))) (HP : Cells w pa pl (fun i => .bool (P i))) (HT : Cells w ta tl (fun i => .string (T i))) (HS : Cells w sa sl (fun i => .slice (SA i) (SL i) (SC i)))
    (HI : ∀ i, i < sl → Cells w (SA i) (SL i) (fun j => .slice (A2 i j) (L2 i j) (C2 i j))) (mt : tl ≤ 9223372036854775807) (ms : sl ≤ 9223372036854775807) (mi : ∀ i, i < sl → SL i ≤ 9223372036854775807) (f0 : -128 ≤ fi) (f1 : fi ≤ 127) :
    Calls Try.prog 3 #[.bool a0, .bool a1, .int .i8 fi, .string s, .slice fa fl fc, .slice pa pl pc, .slice ta tl tc, .slice sa sl sc] w fun e w' => e = .returned (.bool true) ∧ Below w.heap.size w w' := by
  have HF' : Hid (Cells w fa fl (fun i => .bool (F i))) := HF
  have HP' : Hid (Cells w pa pl (fun i => .bool (P i))) := HP
  have HT' : Hid (Cells w ta tl (fun i => .string (T i))) := HT
  have HS' : Hid (Cells w sa sl (fun i => .slice (SA i) (SL i) (SC i))) := HS
  have HI' : Hid (∀ i, i < sl → Cells w (SA i) (SL i) (fun j => .slice (A2 i j) (L2 i j) (C2 i j))) := HI
  have mi' : Hid (∀ i, i < sl → SL i ≤ 9223372036854775807) := mi
  clear HF HP HT HS HI mi
  have hneq23 : ∀ (a : Option Addr) (l c : Nat) (w : World), (binOp .neq 23 (.slice a l c) (.slice none 0 0)).run Try.prog w = .ok (.bool (!a.isNone)) w :=
    fun a l c w => run_neq_slice_nil_any w 23 4 a l c 0 0 Try.underlying23
  have hneq24 : ∀ (a : Option Addr) (l c : Nat) (w : World), (binOp .neq 24 (.slice a l c) (.slice none 0 0)).run Try.prog w = .ok (.bool (!a.isNone)) w :=
    fun a l c w => run_neq_slice_nil_any w 24 9 a l c 0 0 Try.underlying24
  go_enter Try.func3, Try.ntmps3
  go_wp2_with fail
  refine (bytes_any w a0 a1 fi s fa pa ta sa fl fc pl pc tl tc sl sc T SA SL SC A2 L2 C2 HT'.out HS'.out HI'.out mt ms mi'.out).mono ?_
  rintro e w' ⟨⟨r, rfl⟩, rfl⟩
  cases r
  · go_wp2_with fail
    go_ret
    exact ⟨rfl, Below.refl _ _⟩
  go_wp2_with fail
  refine (tooBig_any w' s fa pa ta sa fl fc pl pc tl tc sl sc T SA SL SC A2 L2 C2 HT'.out HS'.out HI'.out).mono ?_
  rintro e w ⟨⟨r, rfl, hr⟩, rfl⟩
  cases r
  rotate_left
  · go_wp2_with fail
    go_ret
    exact ⟨rfl, Below.refl _ _⟩
  obtain ⟨z1, z2, z3, z4, z5⟩ := hr rfl
  have z5' : Hid (∀ i, i < sl → SL i ≤ 65536) := z5
  clear hr z5 mt ms
  have hmk4 := run_make_row' (P := Try.prog) 23 4 (.bool false) 1 Try.underlying23 Try.info4 rfl .i64 .i64 fl (by omega) (by omega)
  go_upto_if 56 with fail
  go_cut [4] (fun v wc => ∃ a c, v = .slice a fl c ∧ Cells wc a fl (fun i => .bool (F i)) ∧ Below w.heap.size w wc)
  case first =>
    cases fa with
    | none =>
      go_wp2_with fail
      go_meet
      case rel => exact ⟨none, fc, rfl, HF'.out, Below.refl _ _⟩
    | some ad =>
      go_wp2_with (refine wpList_copy_splice rfl (.tmp 60) (.tmp 61) 23 23 rfl 4 Try.underlying23 Try.size4 _ _ fl fl fl fc rfl rfl w.heap.size 0 (madeCells #[.bool false] fl).toList 4 ?g1 ((List.range fl).map fun i => .bool (F i)) ?g2 ?g3 ?g4 ?g5 w.heap.size w ?g6 (Nat.le_refl _) ?_)
      case g1 => simpa using heap_alloc_new w (.cells (madeCells #[.bool false] fl) 4)
      case g2 => simp
      case g3 =>
        intro hp
        replace hp : 0 < fl := by simpa using hp
        obtain ⟨b, off, he, _⟩ := HF'.out 0 hp
        cases he
        exact src_alloc HF'.out
      case g4 => simp [madeCells]
      case g5 => intro v hv; simp at hv; obtain ⟨i, _, rfl⟩ := hv; rfl
      case g6 => exact (Below.refl _ _).alloc (Nat.le_refl _) _
      intro w2 hg2 hb2
      go_wp2_with fail
      go_meet
      case rel => exact ⟨_, _, rfl, cells_copied (by simp [madeCells]) hg2.out, hb2⟩
  case rest =>
    rename World => w4
    obtain ⟨a4, c4, rfl, hF4, hB4⟩ := hcut
    have HF4 : Hid (Cells w4 a4 fl (fun i => .bool (F i))) := hF4
    have HP4 : Hid (Cells w4 pa pl (fun i => .bool (P i))) := HP'.out.below hB4
    clear hF4 HF'
    have hmk5 := run_make_row' (P := Try.prog) 23 4 (.bool false) 1 Try.underlying23 Try.info4 rfl .i64 .i64 pl (by omega) (by omega)
    go_upto_if 65 with fail
    go_cut [5] (fun v wc => ∃ a c, v = .slice a pl c ∧ Cells wc a pl (fun i => .bool (P i)) ∧ Below w4.heap.size w4 wc)
    case first =>
      cases pa with
      | none =>
        go_wp2_with fail
        go_meet
        case rel => exact ⟨none, pc, rfl, HP4.out, Below.refl _ _⟩
      | some ad =>
        go_wp2_with (refine wpList_copy_splice rfl (.tmp 69) (.tmp 70) 23 23 rfl 4 Try.underlying23 Try.size4 _ _ pl pl pl pc rfl rfl w4.heap.size 0 (madeCells #[.bool false] pl).toList 4 ?g1 ((List.range pl).map fun i => .bool (P i)) ?g2 ?g3 ?g4 ?g5 w4.heap.size w4 ?g6 (Nat.le_refl _) ?_)
        case g1 => simpa using heap_alloc_new w4 (.cells (madeCells #[.bool false] pl) 4)
        case g2 => simp
        case g3 =>
          intro hp
          replace hp : 0 < pl := by simpa using hp
          obtain ⟨b, off, he, _⟩ := HP4.out 0 hp
          cases he
          exact src_alloc HP4.out
        case g4 => simp [madeCells]
        case g5 => intro v hv; simp at hv; obtain ⟨i, _, rfl⟩ := hv; rfl
        case g6 => exact (Below.refl _ _).alloc (Nat.le_refl _) _
        intro w2 hg2 hb2
        go_wp2_with fail
        go_meet
        case rel => exact ⟨_, _, rfl, cells_copied (by simp [madeCells]) hg2.out, hb2⟩
    case rest =>
      rename World => w5
      obtain ⟨a5, c5, rfl, hP5, hB5⟩ := hcut
      have HP5 : Hid (Cells w5 a5 pl (fun i => .bool (P i))) := hP5
      have HF5 : Hid (Cells w5 a4 fl (fun i => .bool (F i))) := HF4.out.below hB5
      have hB : Below w.heap.size w w5 := hB4.trans (hB5.mono hB4.size)
      have HT5 : Hid (Cells w5 ta tl (fun i => .string (T i))) := HT'.out.below hB
      clear hP5 HP' HP4 HF4 hB4 hB5 HT'
      have hmk6 := run_make_row' (P := Try.prog) 24 9 (.string ByteArray.empty) 16 Try.underlying24 Try.info9 rfl .i64 .i64 tl (by omega) (by omega)
      go_upto_if 74 with fail
      go_cut [6] (fun v wc => ∃ a c, v = .slice a tl c ∧ Cells wc a tl (fun i => .string (T i)) ∧ Below w5.heap.size w5 wc)
      case first =>
        cases ta with
        | none =>
          go_wp2_with fail
          go_meet
          case rel => exact ⟨none, tc, rfl, HT5.out, Below.refl _ _⟩
        | some ad =>
          go_wp2_with (refine wpList_copy_splice rfl (.tmp 78) (.tmp 79) 24 24 rfl 9 Try.underlying24 Try.size9 _ _ tl tl tl tc rfl rfl w5.heap.size 0 (madeCells #[.string ByteArray.empty] tl).toList 9 ?g1 ((List.range tl).map fun i => .string (T i)) ?g2 ?g3 ?g4 ?g5 w5.heap.size w5 ?g6 (Nat.le_refl _) ?_)
          case g1 => simpa using heap_alloc_new w5 (.cells (madeCells #[.string ByteArray.empty] tl) 9)
          case g2 => simp
          case g3 =>
            intro hp
            replace hp : 0 < tl := by simpa using hp
            obtain ⟨b, off, he, _⟩ := HT5.out 0 hp
            cases he
            exact src_alloc HT5.out
          case g4 => simp [madeCells]
          case g5 => intro v hv; simp at hv; obtain ⟨i, _, rfl⟩ := hv; rfl
          case g6 => exact (Below.refl _ _).alloc (Nat.le_refl _) _
          intro w2 hg2 hb2
          go_wp2_with fail
          go_meet
          case rel => exact ⟨_, _, rfl, cells_copied (by simp [madeCells]) hg2.out, hb2⟩
      case rest =>
        rename World => w6
        obtain ⟨a6, c6, rfl, hT6, hB6⟩ := hcut
        have HT6 : Hid (Cells w6 a6 tl (fun i => .string (T i))) := hT6
        have HF6 : Hid (Cells w6 a4 fl (fun i => .bool (F i))) := HF5.out.below hB6
        have HP6 : Hid (Cells w6 a5 pl (fun i => .bool (P i))) := HP5.out.below hB6
        have hB' : Below w.heap.size w w6 := hB.trans (hB6.mono hB.size)
        have HS6 : Hid (Cells w6 sa sl (fun i => .slice (SA i) (SL i) (SC i))) := HS'.out.below hB'
        have HI6 : Hid (∀ i, i < sl → Cells w6 (SA i) (SL i) (fun j => .slice (A2 i j) (L2 i j) (C2 i j))) := fun i hi => (HI'.out i hi).below hB'
        clear hT6 HT5 HF5 HP5 HS' HI' hB hB6 hmk4 hmk5 hmk6
        rename_i hK
        refine hK _ _ ?_
        exact rest17 w w6 a0 a1 fi s a4 a5 a6 sa fl pl tl sl c4 c5 c6 sc F P T SA SL SC A2 L2 C2 HF6 HP6 HT6 HS6 HI6 z5' hB' z1 z2 z3 z4 f0 f1 _ _ _ _ _ _ _ _ _ _ _ _ _ _ _ _ _ _ _ _ _ _ _ _ _ _ _ _ _ _ _ _ _ _ _ _ _ _ _ _ _ _ _ _ _ _ _ _ _ _ _ _ _ _ _ _ _ _ _ _ _ _ _ _ _ _ _ _ _ _ _ _ _ _ _ _ _ _ _ _ _ _ _ _ _ _ _ _ _ _ _ _ _ _ _ _ _ _ _ _ _ _ _ _ _ _ _ _ _ _ _ _ _ _ _ _ _ _ _ _ _ _ _ _ _ _ _ _ _ _ _ _ _ _ _ _ _ _ _ _ _ _ _ _ _ _ _ _ _ _ _ _ _ _ _ _ _ _ _ _ _ _ _ _ _ _ _ _ _ _ _ _ _ _ _ _ _ _ _ _ _ _ _ _ _ _ _ _ _ _ _ _ _ _ _ _ _ _ _ _ _ _ _ _ _ _ _ _ _ _ _ _ _ _ _ _ _ _ _ _ _ _ _ _ _ _
end Go.Proofs.Qxb6609364a.W
