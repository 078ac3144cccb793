import Derived.Test.YbulkftysCl2
namespace Go.Proofs.Ybulkftys
open Go.RowKit
set_option linter.unusedVariables false
set_option linter.unusedSimpArgs false
set_option maxRecDepth 1000000 in
set_option maxHeartbeats 4000000 in
theorem part11 (W : World) (wa : Option Addr) (vb vo n vc wb wo wn wc m k : Nat) (fv fw : Nat → Int) (ca : Option Addr) (g1 c1 g2 c2 : Nat) (w2 : World)
    {u1 u3 u4 u5 u6 u11 u12 u13 u14 u15 u16 u17 u18 u19 u20 u21 u22 u23 u24 u25 u26 u27 u28 u29 u30 u31 u32 u33 u34 u35 u36 u37 u38 u39 u40 u41 u42 u43 u44 u45 u46 u47 u48 u49 u50 u51 u52 u53 u54 u55 u56 u57 u58 u59 u60 u61 u62 u63 u64 u65 u66 u67 u68 u69 u70 u71 u72 u73 u74 u75 u76 u77 u78 u79 u80 u81 u82 u83 u84 u85 u86 u87 u88 u89 u90 u91 u92 u93 u94 u95 u96 u97 u98 u99 u100 u101 u102 u103 u104 u105 u106 u107 u108 u109 u110 u111 u112 u113 u114 u115 u116 u117 u118 u119 u120 u121 u122 u123 u124 u125 u126 u127 u128 : Value}
    (hn : n ≤ 1048576) (hwn : wn ≤ 1048576) (hm : m ≤ wn) (hmn : m ≤ n) (hk : k < n) (hvb : vb < W.heap.size) (hwa : 0 < wn → wa = some ⟨wb, wo, none⟩ ∧ wb < W.heap.size) (hnil : wa = none → wn = 0 ∧ wc = 0) (hv : U1 W vb vo n fv) (hw : U1 W wb wo wn fw) (hb2 : Below W.heap.size W w2) (r1 : Row w2 g1 n fv) (r2 : 0 < wn → Row w2 g2 wn fw) (hca : 0 < wn → ca = some ⟨g2, 0, none⟩) (hcn : ca.isNone = wa.isNone) (q1 : W.heap.size ≤ g1) (q2 : 0 < wn → W.heap.size ≤ g2) :
    Code.wp Yba.prog ((Yba.f4.body.map (tailAt 11)).getD .skip) (bodyPost Yba.prog Yba.f4 fun e w' => e = .returned (.bool true) ∧ Below W.heap.size W w') ⟨#[.slice (some ⟨vb, vo, none⟩) n vc, u1, .slice wa wn wc, u3, u4, u5, u6, .int .i64 (k : Int), .slice wa m wc, .slice (some ⟨g1, 0, none⟩) n c1, .slice ca wn c2, u11, u12, u13, u14, u15, u16, u17, u18, u19, u20, u21, u22, u23, u24, u25, u26, u27, u28, u29, u30, u31, u32, u33, u34, u35, u36, u37, u38, u39, u40, u41, u42, u43, u44, u45, u46, u47, u48, u49, u50, u51, u52, u53, u54, u55, u56, u57, u58, u59, u60, u61, u62, u63, u64, u65, u66, u67, u68, u69, u70, u71, u72, u73, u74, u75, u76, u77, u78, u79, u80, u81, u82, u83, u84, u85, u86, u87, u88, u89, u90, u91, u92, u93, u94, u95, u96, u97, u98, u99, u100, u101, u102, u103, u104, u105, u106, u107, u108, u109, u110, u111, u112, u113, u114, u115, u116, u117, u118, u119, u120, u121, u122, u123, u124, u125, u126, u127, u128], []⟩ w2 := by
  conv => arg 2; whnf
  dsimp only
  have hs2 := hb2.size
  have hl1 := r1.lt
  have HC : Hid (Calls _ _ _ _ _) := tick_ w2 vb vo n vc k wa wb wo m wc fv fw hmn hn hk (by omega) (fun h => ⟨(hwa (by omega)).1, by have := (hwa (by omega)).2; omega⟩) (hv.below hb2 (fun _ => hvb)) (fun i hi => hw.below hb2 (fun h => (hwa h).2) i (by omega))
  have HH : Hid (U1 W vb vo n fv ∧ U1 W wb wo wn fw ∧ Row w2 g1 n fv ∧ (0 < wn → Row w2 g2 wn fw)) := ⟨hv, hw, r1, r2⟩
  clear hv hw r1 r2
  refine wp_gen fun rc hrc => ?_
  go_wp2_with (go_at_call 10; refine HC.out.mono ?_; rintro e w3 ⟨g3, c3, rfl, r3, q3, b3⟩)
  refine hrc _ _ ?_
  obtain ⟨hv, hw, r1, r2⟩ := HH.out
  have hb3 : Below W.heap.size W w3 := hb2.trans (b3.mono hs2)
  refine part12 W w3 wa ca vb vo n vc wb wo wn wc m k g1 c1 g2 c2 g3 c3 fv fw hn hwn hm hk (fun h => (hwa h).1) hca hcn (by omega) (fun h => by have := (hwa h).2; omega) (by omega) (fun h => by have := (r2 h).lt; omega) (by omega) hmn ⟨hv.below hb3 (fun _ => hvb), hw.below hb3 (fun h => (hwa h).2), (r1.below b3 hl1).u1, fun i hi => ?_, r3, hb3⟩
  exact ((r2 (by omega)).below b3 (r2 (by omega)).lt).u1 i hi
set_option maxRecDepth 1000000 in
set_option maxHeartbeats 4000000 in
theorem part9 (W : World) (wa : Option Addr) (vb vo n vc wb wo wn wc m k : Nat) (fv fw : Nat → Int)
    {u1 u3 u4 u5 u6 u9 u10 u11 u12 u13 u14 u15 u16 u17 u18 u19 u20 u21 u22 u23 u24 u25 u26 u27 u28 u29 u30 u31 u32 u33 u34 u35 u36 u37 u38 u39 u40 u41 u42 u43 u44 u45 u46 u47 u48 u49 u50 u51 u52 u53 u54 u55 u56 u57 u58 u59 u60 u61 u62 u63 u64 u65 u66 u67 u68 u69 u70 u71 u72 u73 u74 u75 u76 u77 u78 u79 u80 u81 u82 u83 u84 u85 u86 u87 u88 u89 u90 u91 u92 u93 u94 u95 u96 u97 u98 u99 u100 u101 u102 u103 u104 u105 u106 u107 u108 u109 u110 u111 u112 u113 u114 u115 u116 u117 u118 u119 u120 u121 u122 u123 u124 u125 u126 u127 u128 : Value}
    (hn : n ≤ 1048576) (hwn : wn ≤ 1048576) (hm : m ≤ wn) (hmn : m ≤ n) (hk : k < n) (hvb : vb < W.heap.size) (hwa : 0 < wn → wa = some ⟨wb, wo, none⟩ ∧ wb < W.heap.size) (hnil : wa = none → wn = 0 ∧ wc = 0) (hv : U1 W vb vo n fv) (hw : U1 W wb wo wn fw) :
    Code.wp Yba.prog ((Yba.f4.body.map (tailAt 9)).getD .skip) (bodyPost Yba.prog Yba.f4 fun e w' => e = .returned (.bool true) ∧ Below W.heap.size W w') ⟨#[.slice (some ⟨vb, vo, none⟩) n vc, u1, .slice wa wn wc, u3, u4, u5, u6, .int .i64 (k : Int), .slice wa m wc, u9, u10, u11, u12, u13, u14, u15, u16, u17, u18, u19, u20, u21, u22, u23, u24, u25, u26, u27, u28, u29, u30, u31, u32, u33, u34, u35, u36, u37, u38, u39, u40, u41, u42, u43, u44, u45, u46, u47, u48, u49, u50, u51, u52, u53, u54, u55, u56, u57, u58, u59, u60, u61, u62, u63, u64, u65, u66, u67, u68, u69, u70, u71, u72, u73, u74, u75, u76, u77, u78, u79, u80, u81, u82, u83, u84, u85, u86, u87, u88, u89, u90, u91, u92, u93, u94, u95, u96, u97, u98, u99, u100, u101, u102, u103, u104, u105, u106, u107, u108, u109, u110, u111, u112, u113, u114, u115, u116, u117, u118, u119, u120, u121, u122, u123, u124, u125, u126, u127, u128], []⟩ W := by
  conv => arg 2; whnf
  dsimp only
  have HC : Hid (Calls _ _ _ _ _) := clone9 W ⟨vb, vo, none⟩ vb vo n vc fv (fun _ => ⟨rfl, hvb⟩) hv hn
  have HH : Hid (U1 W vb vo n fv ∧ U1 W wb wo wn fw) := ⟨hv, hw⟩
  clear hv hw
  refine wp_gen fun rc hrc => ?_
  go_wp2_with (go_at_call 9; refine HC.out.mono ?_; rintro e w1 ⟨g1, c1, rfl, r1, q1, b1⟩)
  refine hrc _ _ ?_
  clear hrc rc
  have hs1 := b1.size
  cases wa with
  | none =>
    obtain ⟨rfl, rfl⟩ := hnil rfl
    have HN : Hid (Calls _ _ _ _ _) := clone9_nil w1
    refine wp_gen fun rc hrc => ?_
    go_wp2_with (go_at_call 9; refine HN.out.mono ?_; rintro e w2 ⟨rfl, rfl⟩)
    refine hrc _ _ ?_
    exact part11 W none vb vo n vc wb wo 0 0 m k fv fw none g1 c1 0 0 w2 hn hwn hm hmn hk hvb (fun h => absurd h (Nat.lt_irrefl 0)) (fun _ => ⟨rfl, rfl⟩) HH.out.1 HH.out.2 b1 r1 (fun h => by omega) (fun h => by omega) rfl q1 (fun h => by omega)
  | some x =>
    have HN : Hid (Calls _ _ _ _ _) := clone9 w1 x wb wo wn wc fw (fun h => ⟨by have := (hwa h).1; simpa using this, by have := (hwa h).2; omega⟩) (HH.out.2.below b1 (fun h => (hwa h).2)) hwn
    refine wp_gen fun rc hrc => ?_
    go_wp2_with (go_at_call 9; refine HN.out.mono ?_; rintro e w2 ⟨g2, c2, rfl, r2, q2, b2⟩)
    refine hrc _ _ ?_
    exact part11 W (some x) vb vo n vc wb wo wn wc m k fv fw (some ⟨g2, 0, none⟩) g1 c1 g2 c2 w2 hn hwn hm hmn hk hvb hwa hnil HH.out.1 HH.out.2 (b1.trans (b2.mono hs1)) (r1.below b2 r1.lt) (fun _ => r2) (fun _ => rfl) rfl q1 (fun _ => by omega)
end Go.Proofs.Ybulkftys
