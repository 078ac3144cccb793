import Derived.Test.YbulkfslySt
import Derived.Deep.CutBlock
namespace Go.Proofs.Ybulkfsly
open Go.RowKit

theorem first_false (ks : Nat → Int × Int) (i q : Nat) (hq : ks q = ks i) : ∀ m, q < m → firstTo ks i m = false
  | 0, h => by omega
  | m + 1, h => by
    by_cases e : q = m
    · subst e; simp [firstTo, hq]
    · simp [firstTo, first_false ks i q hq m (by omega)]

set_option maxRecDepth 1000000 in
set_option maxHeartbeats 4000000 in
theorem part4 (w : World) (sa : Option Addr) (SB BB G n : Nat) (fF fT : Nat → Int) (fM fU : Nat → Nat) (hn : n ≤ 4096) (hsa : 0 < n → sa = some ⟨SB, 0, none⟩) {u0 u1 u2 u4 u5 u9 u10 u11 u12 u13 u14 u15 u16 u17 u18 u19 u20 u21 u22 u23 u24 u25 u26 u27 u28 u29 u30 u31 u32 u33 u34 u35 u36 u37 u38 u39 u40 u41 u42 u43 u44 u45 u46 u47 u48 u49 u50 u51 u52 u53 u54 u55 u56 u57 u58 u59 u60 u61 u62 u63 u64 u65 u66 u67 u68 u69 u70 u71 u72 u73 u74 u75 u76 u77 u78 u79 u80 u81 u82 u83 u84 u85 u86 u87 u88 u89 u90 u91 u92 u93 u94 u95 u96 u97 u98 u99 u100 u101 u102 u103 u104 u105 u106 u107 u108 u109 u110 u111 u112 u113 u114 u115 u116 u117 u118 u119 u120 u121 u122 u123 u124 u125 u126 u127 u128 u129 u130 u131 u132 u133 u134 u135 u136 u137 u138 u139 u140 u141 u142 u143 u144 u145 u146 u147 u148 u149 u150 u151 u152 u153 u154 u155 u156 u157 u158 u159 u160 u161 u162 u163 u164 u165 u166 u167 u168 u169 u170 u171 u172 u173 u174 u175 u176 u177 u178 u179 u180 u181 u182 u183 u184 u185 u186 u187 u188 u189 u190 u191 u192 u193 u194 u195 u196 u197 u198 u199 u200 u201 u202 u203 u204 u205 u206 u207 u208 u209 u210 u211 u212 u213 u214 u215 u216 u217 u218 u219 u220 u221 u222 u223 u224 u225 u226 u227 u228 u229 u230 u231 u232 u233 u234 u235 u236 u237 u238 u239 u240 u241 u242 u243 u244 u245 u246 u247 : Value} (w0 : World) (hst0 : St w0 sa SB BB G n fF fT fM fU) (hbel0 : Below w.heap.size w w0) :
    Code.wp Yba.prog ((Yba.f3.body.map (tailAt 27)).getD .skip) (bodyPost Yba.prog Yba.f3 fun e w' => e = .returned (.bool true) ∧ Below w.heap.size w w') ⟨#[u0, u1, u2, .slice sa n n, u4, u5, .pointer (some ⟨G, 0, none⟩), .pointer (some ⟨G + 1 + 1 + 1, 0, none⟩), .int .i64 (n : Int), u9, u10, u11, u12, u13, u14, u15, u16, u17, u18, u19, u20, u21, u22, u23, u24, u25, u26, u27, u28, u29, u30, u31, u32, u33, u34, u35, u36, u37, u38, u39, u40, u41, u42, u43, u44, u45, u46, u47, u48, u49, u50, u51, u52, u53, u54, u55, u56, u57, u58, u59, u60, u61, u62, u63, u64, u65, u66, u67, u68, u69, u70, u71, u72, u73, u74, u75, u76, u77, u78, u79, u80, u81, u82, u83, u84, u85, u86, u87, u88, u89, u90, u91, u92, u93, u94, u95, u96, u97, u98, u99, u100, u101, u102, u103, u104, u105, u106, u107, u108, u109, u110, u111, u112, u113, u114, u115, u116, u117, u118, u119, u120, u121, u122, u123, u124, u125, u126, u127, u128, u129, u130, u131, u132, u133, u134, u135, u136, u137, u138, u139, u140, u141, u142, u143, u144, u145, u146, u147, u148, u149, u150, u151, u152, u153, u154, u155, u156, u157, u158, u159, u160, u161, u162, u163, u164, u165, u166, u167, u168, u169, u170, u171, u172, u173, u174, u175, u176, u177, u178, u179, u180, u181, u182, u183, u184, u185, u186, u187, u188, u189, u190, u191, u192, u193, u194, u195, u196, u197, u198, u199, u200, u201, u202, u203, u204, u205, u206, u207, u208, u209, u210, u211, u212, u213, u214, u215, u216, u217, u218, u219, u220, u221, u222, u223, u224, u225, u226, u227, u228, u229, u230, u231, u232, u233, u234, u235, u236, u237, u238, u239, u240, u241, u242, u243, u244, u245, u246, u247], []⟩ w0 := by
  conv => arg 2; whnf
  go_wp2_with fail
  go_loopg [10, 11] n (fun g d i wr => ∃ m : Nat, m + g = n ∧ i = .int .i64 m ∧ d = .int .i64 (distTo (fun j => (fF j, fT j)) m) ∧ St wr sa SB BB G n fF fT fM fU ∧ Below w.heap.size w wr)
  case atStart => exact ⟨0, by omega, rfl, rfl, hst0, hbel0⟩
  case round =>
    obtain ⟨m, hm, rfl, rfl, hst, hbel⟩ := hrel
    clear hst0 hbel0
    have hdle := dist_le (fun j => (fF j, fT j)) m
    by_cases hlt : m < n
    · obtain rfl := hsa (by omega)
      have hklt : (m : Int) < (n : Int) := by omega
      have hk0 : (0 : Int) ≤ (m : Int) := by omega
      generalize hD : distTo (fun j => (fF j, fT j)) m = D at hdle ⊢
      have HD : Hid (distTo (fun j => (fF j, fT j)) m = D) := hD
      clear hD
      go_wp2_with fail
      go_loopg [12, 13] (n - (m + 1)) (fun g l j wq => ∃ t : Nat, t + g = n - (m + 1) ∧ j = .int .i64 ((m + 1 + t : Nat) : Int) ∧ l = .int .i64 (lastTo (fun j => (fF j, fT j)) m t) ∧ St wq (some ⟨SB, 0, none⟩) SB BB G n fF fT fM fU ∧ Below w.heap.size w wq)
      case atStart => exact ⟨0, by omega, by go_num, rfl, hst, hbel⟩
      case round =>
        obtain ⟨t, ht, rfl, rfl, hst2, hbel2⟩ := hrel
        clear hst hbel
        by_cases hj : m + 1 + t < n
        · have hl1 : lastTo (fun j => (fF j, fT j)) m (t + 1) = if fF (m + 1 + t) = fF m ∧ fT (m + 1 + t) = fT m then m + 1 + t else lastTo (fun j => (fF j, fT j)) m t := by simp [lastTo]
          obtain ⟨c0, c1, _, _⟩ := hst2.sl (m + 1 + t) hj
          obtain ⟨d0, d1, _, _⟩ := hst2.sl m hlt
          simp only [Nat.zero_add] at c0 c1 d0 d1
          have HL : Hid (lastTo (fun j => (fF j, fT j)) m (t + 1) = if fF (m + 1 + t) = fF m ∧ fT (m + 1 + t) = fT m then m + 1 + t else lastTo (fun j => (fF j, fT j)) m t) := hl1
          have Hst : Hid (St wr (some ⟨SB, 0, none⟩) SB BB G n fF fT fM fU) := hst2
          have Hbel : Hid (Below w.heap.size w wr) := hbel2
          have HT : Hid (t + gk = n - (m + 1)) := ht
          clear hl1 hst2 hbel2 ht
          generalize hjj : m + 1 + t = jj at hj c0 c1 HL ⊢
          have Hjj : Hid (m + 1 + t = jj) := hjj
          clear hjj
          generalize lastTo (fun j => (fF j, fT j)) m t = L0 at HL ⊢
          have hj1 : (jj : Int) < (n : Int) := by omega
          have hj2 : (0 : Int) ≤ (jj : Int) := by omega
          by_cases hF : fF jj = fF m
          · have hFb : (fF jj == fF m) = true := by simp [hF]
            by_cases hT : fT jj = fT m
            · have hTb : (fT jj == fT m) = true := by simp [hT]
              have HL2 : Hid (lastTo (fun j => (fF j, fT j)) m (t + 1) = jj) := by have h := HL.out; rw [if_pos ⟨hF, hT⟩] at h; exact h
              clear HL hF hT
              go_wp2_with fail
              go_quiet (fail)
              go_wp2
              go_roundg (gk - 1)
              case measure => have h1 := HT.out; have h2 := Hjj.out; omega
              case rel => exact ⟨t + 1, by have h1 := HT.out; have h2 := Hjj.out; omega, by have h2 := Hjj.out; go_light; rw [show m + 1 + (t + 1) = jj + 1 from by omega]; go_num, by rw [HL2.out], Hst.out.below (below_drewN (Below.refl _ _) _), below_drewN Hbel.out _⟩
            · have hTb : (fT jj == fT m) = false := by simp [hT]
              have HL2 : Hid (lastTo (fun j => (fF j, fT j)) m (t + 1) = L0) := by have h := HL.out; rw [if_neg (fun h => hT h.2)] at h; exact h
              clear HL hF hT
              go_wp2_with fail
              go_quiet (fail)
              go_wp2
              go_roundg (gk - 1)
              case measure => have h1 := HT.out; have h2 := Hjj.out; omega
              case rel => exact ⟨t + 1, by have h1 := HT.out; have h2 := Hjj.out; omega, by have h2 := Hjj.out; go_light; rw [show m + 1 + (t + 1) = jj + 1 from by omega]; go_num, by rw [HL2.out], Hst.out.below (below_drewN (Below.refl _ _) _), below_drewN Hbel.out _⟩
          · have hFb : (fF jj == fF m) = false := by simp [hF]
            have HL2 : Hid (lastTo (fun j => (fF j, fT j)) m (t + 1) = L0) := by have h := HL.out; rw [if_neg (fun h => hF h.1)] at h; exact h
            clear HL hF
            go_wp2_with fail
            go_quiet (fail)
            go_wp2
            go_roundg (gk - 1)
            case measure => have h1 := HT.out; have h2 := Hjj.out; omega
            case rel => exact ⟨t + 1, by have h1 := HT.out; have h2 := Hjj.out; omega, by have h2 := Hjj.out; go_light; rw [show m + 1 + (t + 1) = jj + 1 from by omega]; go_num, by rw [HL2.out], Hst.out.below (below_drewN (Below.refl _ _) _), below_drewN Hbel.out _⟩
        · have e1 : t = n - (m + 1) := by omega
          have hll := last_lt (fun j => (fF j, fT j)) m t
          have hgl := get_last (fun j => (fF j, fT j)) m t
          rw [show m + 1 + t = n from by omega] at hgl
          have HG : Hid (mget (msTo (fun j => (fF j, fT j)) n) (fF m, fT m) = some (lastTo (fun j => (fF j, fT j)) m t)) := hgl
          clear hgl
          generalize lastTo (fun j => (fF j, fT j)) m t = L0 at hll HG ⊢
          have hl1 : (L0 : Int) < (n : Int) := by omega
          have hl2 : (0 : Int) ≤ (L0 : Int) := by omega
          have hjn : ((m + 1 + t : Nat) : Int) = (n : Int) := by omega
          rw [hjn]
          have Hst : Hid (St wr (some ⟨SB, 0, none⟩) SB BB G n fF fT fM fU) := hst2
          have Hbel : Hid (Below w.heap.size w wr) := hbel2
          clear hst2 hbel2 ht hj hjn e1 hll
          go_upto_block 8 with fail
          go_cut [14] (fun f wq => f = .bool (firstTo (fun j => (fF j, fT j)) m m) ∧ St wq (some ⟨SB, 0, none⟩) SB BB G n fF fT fM fU ∧ Below w.heap.size w wq)
          case first =>
            go_wp2_with fail
            go_loopg [14, 15] m (fun g f j wq => ∃ t : Nat, t + g = m ∧ j = .int .i64 (t : Int) ∧ f = .bool true ∧ firstTo (fun j => (fF j, fT j)) m t = true ∧ St wq (some ⟨SB, 0, none⟩) SB BB G n fF fT fM fU ∧ Below w.heap.size w wq)
            case atStart => exact ⟨0, by omega, rfl, rfl, rfl, Hst.out, Hbel.out⟩
            case round =>
              obtain ⟨q, hq, rfl, rfl, hfi, hst2, hbel2⟩ := hrel
              clear Hst Hbel HG HD
              by_cases hqm : q < m
              · obtain ⟨c0, c1, _, _⟩ := hst2.sl q (by omega)
                obtain ⟨d0, d1, _, _⟩ := hst2.sl m hlt
                simp only [Nat.zero_add] at c0 c1 d0 d1
                have hf1 : firstTo (fun j => (fF j, fT j)) m (q + 1) = (firstTo (fun j => (fF j, fT j)) m q && decide (¬ (fF q = fF m ∧ fT q = fT m))) := by simp [firstTo]
                have HF1 : Hid (firstTo (fun j => (fF j, fT j)) m (q + 1) = (firstTo (fun j => (fF j, fT j)) m q && decide (¬ (fF q = fF m ∧ fT q = fT m)))) := hf1
                have HFI : Hid (firstTo (fun j => (fF j, fT j)) m q = true) := hfi
                have Hst : Hid (St wr (some ⟨SB, 0, none⟩) SB BB G n fF fT fM fU) := hst2
                have Hbel : Hid (Below w.heap.size w wr) := hbel2
                clear hst2 hbel2 hf1 hfi
                have hq1 : (q : Int) < (m : Int) := by omega
                have hq3 : (q : Int) < (n : Int) := by omega
                have hq2 : (0 : Int) ≤ (q : Int) := by omega
                by_cases hF : fF q = fF m
                · have hFb : (fF q == fF m) = true := by simp [hF]
                  by_cases hT : fT q = fT m
                  · have hTb : (fT q == fT m) = true := by simp [hT]
                    have HL2 : Hid (firstTo (fun j => (fF j, fT j)) m m = false) := first_false (fun j => (fF j, fT j)) m q (by simp [hF, hT]) m hqm
                    clear HF1 hF hT
                    go_wp2_with fail
                    go_quiet (fail)
                    go_wp2
                    go_meet
                    case rel => exact ⟨by rw [HL2.out], Hst.out.below (below_drewN (Below.refl _ _) _), below_drewN Hbel.out _⟩
                  · have hTb : (fT q == fT m) = false := by simp [hT]
                    have HL2 : Hid (firstTo (fun j => (fF j, fT j)) m (q + 1) = true) := by have h := HF1.out; rw [HFI.out] at h; rw [Hid, h]; simp [hT]
                    clear HF1 hF hT
                    go_wp2_with fail
                    go_quiet (fail)
                    go_wp2
                    go_roundg (gk - 1)
                    case measure => omega
                    case rel => exact ⟨q + 1, by omega, by go_num, rfl, HL2.out, Hst.out.below (below_drewN (Below.refl _ _) _), below_drewN Hbel.out _⟩
                · have hFb : (fF q == fF m) = false := by simp [hF]
                  have HL2 : Hid (firstTo (fun j => (fF j, fT j)) m (q + 1) = true) := by have h := HF1.out; rw [HFI.out] at h; rw [Hid, h]; simp [hF]
                  clear HF1 hF
                  go_wp2_with fail
                  go_quiet (fail)
                  go_wp2
                  go_roundg (gk - 1)
                  case measure => omega
                  case rel => exact ⟨q + 1, by omega, by go_num, rfl, HL2.out, Hst.out.below (below_drewN (Below.refl _ _) _), below_drewN Hbel.out _⟩
              · obtain rfl : q = m := by omega
                go_wp2
                go_meet
                case rel => exact ⟨by rw [hfi], hst2, hbel2⟩
          case rest =>
            obtain ⟨rfl, hst3, hbel3⟩ := hcut
            clear Hst Hbel
            have hget := fun nd => run_get (wc.drewN nd) (G + 1) SB _ (fF m, fT m) _ hst3.m HG.out
            have hget' : ∀ nd, (Instr.lookup 35 (.map (some (G + 1))) (.agg #[.int .i64 (fF m), .int .i64 (fT m)]) true).run Yba.prog (wc.drewN nd) = .ok (.tuple #[.pointer (some ⟨SB, L0 * 4, none⟩), .bool true]) (wc.drewN nd) := hget
            obtain ⟨d0, d1, _, _⟩ := hst3.sl m hlt
            simp only [Nat.zero_add] at d0 d1
            have hr1 := hst3.r1
            have hli := hst3.links
            have n54 := neq54
            have Hst : Hid (St wc (some ⟨SB, 0, none⟩) SB BB G n fF fT fM fU) := hst3
            have Hbel : Hid (Below w.heap.size w wc) := hbel3
            have hd1 : distTo (fun j => (fF j, fT j)) (m + 1) = distTo (fun j => (fF j, fT j)) m + if firstTo (fun j => (fF j, fT j)) m m = true then 1 else 0 := rfl
            rw [HD.out] at hd1
            have HD1 : Hid (distTo (fun j => (fF j, fT j)) (m + 1) = D + if firstTo (fun j => (fF j, fT j)) m m = true then 1 else 0) := hd1
            clear hst3 hbel3 hget hd1 HG HD
            generalize firstTo (fun j => (fF j, fT j)) m m = fb at HD1 ⊢
            go_upto_if 207 with fail
            go_cut [10] (fun d wq => d = .int .i64 ((D + if fb = true then 1 else 0 : Nat) : Int) ∧ wq = wc)
            case first =>
              cases fb
              · go_wp2
                go_meet
                case rel => exact ⟨by simp, rfl⟩
              · go_wp2
                go_meet
                case rel => exact ⟨by simp, rfl⟩
            case rest =>
              obtain ⟨rfl, rfl⟩ := hcut
              generalize hdd : (D + if fb = true then 1 else 0) = D1 at HD1 ⊢
              clear hdd
              go_wp2_with fail
              go_quiet (fail)
              go_wp2
              go_roundg (n - (m + 1))
              case measure => omega
              case rel => exact ⟨m + 1, by omega, by go_num, by rw [HD1.out], Hst.out.below (below_drewN (Below.refl _ _) _), below_drewN Hbel.out _⟩
    · have : m = n := by omega
      subst this
      have hlen' := run_len wr (G + 1) SB _ hst.m
      rw [len_dist] at hlen'
      have hr1 := hst.r1
      generalize distTo (fun j => (fF j, fT j)) m = D at hdle hlen' ⊢
      have hDD : ((D : Int) == (D : Int)) = true := by simp
      have Hbel : Hid (Below w.heap.size w wr) := hbel
      clear hst hbel
      go_wp2
      go_ret
      exact ⟨rfl, Hbel.out⟩
end Go.Proofs.Ybulkfsly
