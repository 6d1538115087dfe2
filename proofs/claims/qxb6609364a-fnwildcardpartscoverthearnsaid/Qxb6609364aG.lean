import Derived.Test.Qxb6609364aF
namespace Go.Proofs.Qxb6609364a.W
open Go.RowKit Go.Deep

/-- The code from region n on. -/
def fromRegion (n : Nat) : Code → Option Code
  | .seq (.region id ops d) b => if id = n then some (.seq (.region id ops d) b) else fromRegion n b
  | .seq a b => match fromRegion n a with
    | some c => some c
    | none => fromRegion n b
  | .block _ c => fromRegion n c
  | .scope c => fromRegion n c
  | _ => none

/-- How many parts the head is, and what it is. -/
def hN (s : ByteArray) : Nat := if s.toList.isEmpty then 0 else 1
def hL (s : ByteArray) : List Value := if s.toList.isEmpty then [] else partL false true s none 6
theorem hN_t {s : ByteArray} (h : s.toList.isEmpty = true) : hN s = 0 := by unfold hN; rw [if_pos h]
theorem hN_f {s : ByteArray} (h : s.toList.isEmpty = false) : hN s = 1 := by unfold hN; rw [h]; rfl
theorem hL_t {s : ByteArray} (h : s.toList.isEmpty = true) : hL s = [] := by unfold hL; rw [if_pos h]
theorem hL_f {s : ByteArray} (h : s.toList.isEmpty = false) : hL s = partL false true s none 6 := by unfold hL; rw [h]; rfl

set_option maxHeartbeats 4000000 in
set_option maxRecDepth 100000 in
theorem rest17 (w0 w6 : World) (a0 a1 : Bool) (fi : Int) (s : ByteArray) (a4 a5 a6 sa : Option Addr) (fl pl tl sl c4 c5 c6 sc : Nat) (F P : Nat → Bool) (T : Nat → ByteArray) (SA : Nat → Option Addr) (SL SC : Nat → Nat) (A2 : Nat → Nat → Option Addr) (L2 C2 : Nat → Nat → Nat)
    (HF6 : Hid (Cells w6 a4 fl (fun i => .bool (F i)))) (HP6 : Hid (Cells w6 a5 pl (fun i => .bool (P i)))) (HT6 : Hid (Cells w6 a6 tl (fun i => .string (T i)))) (HS6 : Hid (Cells w6 sa sl (fun i => .slice (SA i) (SL i) (SC i))))
    (HI6 : Hid (∀ i, i < sl → Cells w6 (SA i) (SL i) (fun j => .slice (A2 i j) (L2 i j) (C2 i j)))) (z5' : Hid (∀ i, i < sl → SL i ≤ 65536)) (hB' : Below w0.heap.size w0 w6) (z1 : fl ≤ 65536) (z2 : pl ≤ 65536) (z3 : tl ≤ 65536) (z4 : sl ≤ 65536) (f0 : -128 ≤ fi) (f1 : fi ≤ 127)
    (u8 u9 u10 u11 u12 u13 u14 u15 u17 u18 u19 u20 u21 u22 u23 u24 u25 u26 u27 u28 u29 u30 u31 u32 u33 u34 u35 u36 u37 u38 u39 u40 u41 u42 u43 u44 u45 u46 u47 u48 u49 u50 u51 u52 u53 u54 u55 u56 u57 u58 u59 u60 u61 u62 u63 u64 u65 u66 u67 u68 u69 u70 u71 u72 u73 u74 u75 u76 u77 u78 u79 u80 u81 u82 u83 u84 u85 u86 u87 u88 u89 u90 u91 u92 u93 u94 u95 u96 u97 u98 u99 u100 u101 u102 u103 u104 u105 u106 u107 u108 u109 u110 u111 u112 u113 u114 u115 u116 u117 u118 u119 u120 u121 u122 u123 u124 u125 u126 u127 u128 u129 u130 u131 u132 u133 u134 u135 u136 u137 u138 u139 u140 u141 u142 u143 u144 u145 u146 u147 u148 u149 u150 u151 u152 u153 u154 u155 u156 u157 u158 u159 u160 u161 u162 u163 u164 u165 u166 u167 u168 u169 u170 u171 u172 u173 u174 u175 u176 u177 u178 u179 u180 u181 u182 u183 u184 u185 u186 u187 u188 u189 u190 u191 u192 u193 u194 u195 u196 u197 u198 u199 u200 u201 u202 u203 u204 u205 u206 u207 u208 u209 u210 u211 u212 u213 u214 u215 u216 u217 u218 u219 u220 u221 u222 u223 u224 u225 u226 u227 u228 u229 u230 u231 u232 u233 u234 : Value) :
    Code.wp Try.prog ((Try.f3.body.bind (fromRegion 17)).getD .skip) (bodyPost Try.prog Try.f3 fun e w' => e = .returned (.bool true) ∧ Below w0.heap.size w0 w') ⟨#[.bool a0, .bool a1, .int .i8 fi, .string s, .slice a4 fl c4, .slice a5 pl c5, .slice a6 tl c6, .slice sa sl sc, u8, u9, u10, u11, u12, u13, u14, u15, .bool false, u17, u18, u19, u20, u21, u22, u23, u24, u25, u26, u27, u28, u29, u30, u31, u32, u33, u34, u35, u36, u37, u38, u39, u40, u41, u42, u43, u44, u45, u46, u47, u48, u49, u50, u51, u52, u53, u54, u55, u56, u57, u58, u59, u60, u61, u62, u63, u64, u65, u66, u67, u68, u69, u70, u71, u72, u73, u74, u75, u76, u77, u78, u79, u80, u81, u82, u83, u84, u85, u86, u87, u88, u89, u90, u91, u92, u93, u94, u95, u96, u97, u98, u99, u100, u101, u102, u103, u104, u105, u106, u107, u108, u109, u110, u111, u112, u113, u114, u115, u116, u117, u118, u119, u120, u121, u122, u123, u124, u125, u126, u127, u128, u129, u130, u131, u132, u133, u134, u135, u136, u137, u138, u139, u140, u141, u142, u143, u144, u145, u146, u147, u148, u149, u150, u151, u152, u153, u154, u155, u156, u157, u158, u159, u160, u161, u162, u163, u164, u165, u166, u167, u168, u169, u170, u171, u172, u173, u174, u175, u176, u177, u178, u179, u180, u181, u182, u183, u184, u185, u186, u187, u188, u189, u190, u191, u192, u193, u194, u195, u196, u197, u198, u199, u200, u201, u202, u203, u204, u205, u206, u207, u208, u209, u210, u211, u212, u213, u214, u215, u216, u217, u218, u219, u220, u221, u222, u223, u224, u225, u226, u227, u228, u229, u230, u231, u232, u233, u234], []⟩ w6 := by
  conv => arg 2; whnf
  by_cases e1 : fl = tl
  rotate_left
  · have e1' : ((fl : Int) != (tl : Int)) = true := by simp; omega
    go_wp2_with fail
    go_ret
    exact ⟨rfl, hB'⟩
  subst e1
  by_cases e2 : pl = fl
  rotate_left
  · have e2' : ((pl : Int) != (fl : Int)) = true := by simp; omega
    go_wp2_with fail
    go_ret
    exact ⟨rfl, hB'⟩
  subst e2
  by_cases e3 : sl = pl
  rotate_left
  · have e3' : ((sl : Int) != (pl : Int)) = true := by simp; omega
    go_wp2_with fail
    go_ret
    exact ⟨rfl, hB'⟩
  subst e3
  go_upto_region 20 with fail
  go_cut [112] (fun v wc => w6 = wc ∧ (v = .bool true ∨ (v = .bool false ∧ Good sl fi)))
  case first =>
    by_cases g0 : 0 < sl
    · by_cases g1 : fi < 0
      · go_wp2_with fail
        go_meet
        case rel => exact ⟨rfl, Or.inl rfl⟩
      · by_cases g2 : 6 < fi + (sl : Int)
        · go_wp2_with fail
          go_meet
          case rel => exact ⟨rfl, Or.inl rfl⟩
        · go_wp2_with fail
          go_meet
          case rel => exact ⟨rfl, Or.inr ⟨rfl, ⟨by omega, fun _ => ⟨by omega, by omega⟩⟩⟩⟩
    · go_wp2_with fail
      go_meet
      case rel => exact ⟨rfl, Or.inr ⟨rfl, ⟨by omega, fun h => absurd h g0⟩⟩⟩
  case rest =>
    obtain ⟨rfl, hcut⟩ := hcut
    rcases hcut with rfl | ⟨rfl, hgood⟩
    · go_wp2_with fail
      go_ret
      exact ⟨rfl, hB'⟩
    have hn6 := hgood.1
    have Hgood : Hid (0 < sl → 0 ≤ fi ∧ fi + sl ≤ 6) := hgood.2
    clear hgood z4 z1 z2 z3
    go_upto_region 24 with (first | (go_at_call 6; refine (newArn_any _ a0 a1 fi s a4 a5 a6 sa sl c4 c5 c6 sc F P T SA SL SC A2 L2 C2 HF6.out HP6.out HT6.out HS6.out HI6.out (by omega) z5'.out).mono ?_; rintro e w7 ⟨ap, cp, CP, rfl, hown7, hB7⟩) | (go_at_call 7; refine (parts_any a0 a1 fi s ap sl cp _).mono ?_; rintro e wx ⟨rfl, rfl⟩))
    go_cut [23] (fun v wc => ∃ g8 c8, v = .slice (some ⟨g8, 0, none⟩) (hN s + sl) c8 ∧ wc.ownsRow 0 41 5 (.slice (some ⟨g8, 0, none⟩) (hN s + sl) c8) (hN s + sl) (hL s ++ partsL F P T CP (slotOf fi sl) sl) ∧ wc.ownsRow 0 39 4 (.slice ap sl cp) sl (wilds F P T CP sl) ∧ Below w6.heap.size w6 wc)
    case first =>
      cases he : s.toList.isEmpty
      · go_wp2_with (go_at_call 8; refine (zzparts_h _ a0 a1 fi s _ ap sl cp F P T CP ((hown7.alloc _).alloc _) hn6 (fun h => (Hgood.out h).1) f1 he).mono ?_; rintro e w8 ⟨g8, c8, rfl, hown8, hB8⟩)
        go_meet
        case rel =>
          have hs7 := hB7.size
          have hs8 := hB8.size
          simp at hs8
          refine ⟨g8, c8, by rw [hN_f he], by rw [hN_f he, hL_f he]; exact own_mono hown8 (Nat.zero_le _), own_mono (own_below ((hown7.alloc _).alloc _) hB8 (fun g hg => ?_)) (Nat.zero_le _), ((hB7.alloc hs7 _).alloc (by simp; omega) _).trans (hB8.mono (by simp; omega))⟩
          have := hown7.lt g hg
          simp
          omega
      · go_wp2_with (go_at_call 8; refine (zzparts_e _ a0 a1 fi s _ ap sl cp F P T CP ((hown7.alloc _).alloc _) hn6 (fun h => (Hgood.out h).1) f1 he).mono ?_; rintro e w8 ⟨g8, c8, rfl, hown8, hB8⟩)
        go_meet
        case rel =>
          have hs7 := hB7.size
          have hs8 := hB8.size
          simp at hs8
          refine ⟨g8, c8, by rw [hN_t he, Nat.zero_add], by rw [hN_t he, hL_t he, Nat.zero_add, List.nil_append]; exact own_mono hown8 (Nat.zero_le _), own_mono (own_below ((hown7.alloc _).alloc _) hB8 (fun g hg => ?_)) (Nat.zero_le _), ((hB7.alloc hs7 _).alloc (by simp; omega) _).trans (hB8.mono (by simp; omega))⟩
          have := hown7.lt g hg
          simp
          omega
    case rest =>
      rename World => w8
      obtain ⟨g8, c8, hv8, hown8, hown7', hB8⟩ := hcut
      have HF8 : Hid (Cells w8 a4 sl (fun i => .bool (F i))) := HF6.out.below hB8
      have HP8 : Hid (Cells w8 a5 sl (fun i => .bool (P i))) := HP6.out.below hB8
      have HT8 : Hid (Cells w8 a6 sl (fun i => .string (T i))) := HT6.out.below hB8
      have HB : Hid (Below w0.heap.size w0 w8) := hB'.trans (hB8.mono hB'.size)
      rename_i hK
      refine hK _ _ ?_
      cases he : s.toList.isEmpty
      · rw [hN_f he] at hv8 hown8
        rw [hL_f he] at hown8
        subst hv8
        exact rest24h w0 w8 a0 a1 fi s a4 a5 a6 ap sl c4 c5 c6 cp g8 c8 F P T CP hown8 hown7' HF8 HP8 HT8 HB hn6 Hgood f0 f1 he _ _ _ _ _ _ _ _ _ _ _ _ _ _ _ _ _ _ _ _ _ _ _ _ _ _ _ _ _ _ _ _ _ _ _ _ _ _ _ _ _ _ _ _ _ _ _ _ _ _ _ _ _ _ _ _ _ _ _ _ _ _ _ _ _ _ _ _ _ _ _ _ _ _ _ _ _ _ _ _ _ _ _ _ _ _ _ _ _ _ _ _ _ _ _ _ _ _ _ _ _ _ _ _ _ _ _ _ _ _ _ _ _ _ _ _ _ _ _ _ _ _ _ _ _ _ _ _ _ _ _ _ _ _ _ _ _ _ _ _ _ _ _ _ _ _ _ _ _ _ _ _ _ _ _ _ _ _ _ _ _ _ _ _ _ _ _ _ _ _ _ _ _ _ _ _ _ _ _ _ _ _ _ _ _ _ _ _ _ _ _ _ _ _ _ _ _ _ _ _ _ _ _ _ _ _ _ _ _ _ _ _ _ _ _ _ _ _ _ _ _ _ _ _
      · rw [hN_t he, Nat.zero_add] at hv8 hown8
        rw [hL_t he, List.nil_append] at hown8
        subst hv8
        exact rest24e w0 w8 a0 a1 fi s a4 a5 a6 ap sl c4 c5 c6 cp g8 c8 F P T CP hown8 hown7' HF8 HP8 HT8 HB hn6 Hgood f0 f1 he _ _ _ _ _ _ _ _ _ _ _ _ _ _ _ _ _ _ _ _ _ _ _ _ _ _ _ _ _ _ _ _ _ _ _ _ _ _ _ _ _ _ _ _ _ _ _ _ _ _ _ _ _ _ _ _ _ _ _ _ _ _ _ _ _ _ _ _ _ _ _ _ _ _ _ _ _ _ _ _ _ _ _ _ _ _ _ _ _ _ _ _ _ _ _ _ _ _ _ _ _ _ _ _ _ _ _ _ _ _ _ _ _ _ _ _ _ _ _ _ _ _ _ _ _ _ _ _ _ _ _ _ _ _ _ _ _ _ _ _ _ _ _ _ _ _ _ _ _ _ _ _ _ _ _ _ _ _ _ _ _ _ _ _ _ _ _ _ _ _ _ _ _ _ _ _ _ _ _ _ _ _ _ _ _ _ _ _ _ _ _ _ _ _ _ _ _ _ _ _ _ _ _ _ _ _ _ _ _ _ _ _ _ _ _ _ _ _ _ _ _ _ _ _
end Go.Proofs.Qxb6609364a.W
