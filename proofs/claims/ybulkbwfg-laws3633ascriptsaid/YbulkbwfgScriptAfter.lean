/-
  LawS3633AScript: what she asks of the model at the end (her third, fourth and fifth loop), as a law on that part of her text.
-/
import Derived.Test.YbulkbwfgScriptReg
namespace Go.Proofs.Ybulkbwfg
open Go.RowKit Go.Proofs

theorem cnt_next (e a b : Nat) (hb : b < 2) {T : List Ent} : cnt e T (a * 2 + (b + 1)) = cnt e T (a * 2 + b) + if (look e a b T).isSome = true then 1 else 0 := by
  show cnt e T (a * 2 + b) + (if (look e ((a * 2 + b) / 2) ((a * 2 + b) % 2) T).isSome = true then 1 else 0) = _
  rw [show (a * 2 + b) / 2 = a by omega, show (a * 2 + b) % 2 = b by omega]
theorem cell_of {W : World} {g i : Nat} {cs : Array Value} {t : TypeId} (h : W.heap[g]? = some (.cells cs t (0, 0))) : W.cell? ⟨g, i, none⟩ = cs[i]? := by
  simp [World.cell?, h]

section
set_option maxHeartbeats 8000000
set_option maxRecDepth 100000
theorem after47 {u0 u1 u2 u4 u5 u6 u8 u9 u10 u11 u12 u13 u14 u15 u16 u17 u18 u19 u20 u21 u22 u23 u24 u25 u26 u27 u28 u29 u30 u31 u32 u33 u34 u35 u36 u37 u38 u39 u40 u41 u42 u43 u44 u45 u46 u47 u48 u49 u50 u51 u52 u53 u54 u55 u56 u57 u58 u59 u60 u61 u62 u63 u64 u65 u66 u67 u68 u69 u70 u71 u72 u73 u74 u75 u76 u77 u78 u79 u80 u81 u82 u83 u84 u85 u86 u87 u88 u89 u90 u91 u92 u93 u94 u95 u96 u97 u98 u99 u100 u101 u102 u103 u104 u105 u106 u107 u108 u109 u110 u111 u112 u113 u114 u115 u116 u117 u118 u119 u120 u121 u122 u123 u124 u125 u126 u127 u128 u129 u130 u131 u132 u133 u134 u135 u136 u137 u138 u139 u140 u141 u142 u143 u144 u145 u146 u147 u148 u149 u150 u151 u152 u153 u154 u155 u156 u157 u158 u159 u160 u161 u162 u163 u164 u165 u166 u167 u168 u169 u170 u171 u172 u173 u174 u175 u176 u177 u178 u179 u180 u181 u182 u183 u184 u185 u186 u187 u188 u189 u190 u191 u192 u193 u194 u195 u196 u197 u198 u199 u200 u201 u202 u203 u204 u205 u206 u207 u208 u209 u210 u211 u212 u213 u214 u215 u216 u217 u218 u219 u220 u221 u222 u223 u224 u225 u226 u227 u228 u229 u230 u231 u232 u233 u234 u235 u236 u237 u238 u239 u240 u241 u242 u243 u244 u245 u246 u247 u248 u249 u250 u251 u252 u253 u254 u255 u256 u257 u258 u259 u260 u261 u262 u263 u264 u265 u266 u267 u268 u269 u270 u271 u272 u273 u274 u275 u276 u277 u278 u279 u280 u281 u282 u283 u284 u285 u286 u287 u288 u289 : Value} {w wz : World} {Mo B gv cv cp : Nat} {E : Nat → Nat} {mo1 : Nat → Option Nat} {ao : Option Addr} {T : List Ent} (HT : Hid (St w wz Mo B E (.slice (some ⟨gv, 0, none⟩) 3 cv) ao cp T)) (HI : Hid (Inv w wz Mo B 3 E (.slice (some ⟨gv, 0, none⟩) 3 cv) mo1 T)) (HTl : Hid (T.length ≤ 1024))
    (HGV : Hid (∀ i, i < 3 → wz.cell? ⟨gv, i, none⟩ = some (.pointer (some ⟨E i, 0, none⟩)))) (M0 : Hid (wz.cell? ⟨Mo, 0, none⟩ = some (.slice (some ⟨gv, 0, none⟩) 3 cv))) (M1 : Hid (wz.cell? ⟨Mo, 1, none⟩ = some (.map (some B)))) :
    Code.wp Yba.prog code47 (bodyPost Yba.prog Yba.f3 fun ex w' => ex = .returned (.bool true) ∧ Below w.heap.size w w') ⟨#[u0, u1, u2, .pointer (some ⟨Mo, 0, none⟩), u4, u5, u6, .slice ao T.length cp, u8, u9, u10, u11, u12, u13, u14, u15, u16, u17, u18, u19, u20, u21, u22, u23, u24, u25, u26, u27, u28, u29, u30, u31, u32, u33, u34, u35, u36, u37, u38, u39, u40, u41, u42, u43, u44, u45, u46, u47, u48, u49, u50, u51, u52, u53, u54, u55, u56, u57, u58, u59, u60, u61, u62, u63, u64, u65, u66, u67, u68, u69, u70, u71, u72, u73, u74, u75, u76, u77, u78, u79, u80, u81, u82, u83, u84, u85, u86, u87, u88, u89, u90, u91, u92, u93, u94, u95, u96, u97, u98, u99, u100, u101, u102, u103, u104, u105, u106, u107, u108, u109, u110, u111, u112, u113, u114, u115, u116, u117, u118, u119, u120, u121, u122, u123, u124, u125, u126, u127, u128, u129, u130, u131, u132, u133, u134, u135, u136, u137, u138, u139, u140, u141, u142, u143, u144, u145, u146, u147, u148, u149, u150, u151, u152, u153, u154, u155, u156, u157, u158, u159, u160, u161, u162, u163, u164, u165, u166, u167, u168, u169, u170, u171, u172, u173, u174, u175, u176, u177, u178, u179, u180, u181, u182, u183, u184, u185, u186, u187, u188, u189, u190, u191, u192, u193, u194, u195, u196, u197, u198, u199, u200, u201, u202, u203, u204, u205, u206, u207, u208, u209, u210, u211, u212, u213, u214, u215, u216, u217, u218, u219, u220, u221, u222, u223, u224, u225, u226, u227, u228, u229, u230, u231, u232, u233, u234, u235, u236, u237, u238, u239, u240, u241, u242, u243, u244, u245, u246, u247, u248, u249, u250, u251, u252, u253, u254, u255, u256, u257, u258, u259, u260, u261, u262, u263, u264, u265, u266, u267, u268, u269, u270, u271, u272, u273, u274, u275, u276, u277, u278, u279, u280, u281, u282, u283, u284, u285, u286, u287, u288, u289], []⟩ wz := by
  conv => arg 2; whnf
  go_wp2_with fail
  -- the third loop: the entities
  go_loopg [20] 3 (fun g s20 wx => ∃ i : Nat, i ≤ 3 ∧ g = 3 - i ∧ s20 = .int .i64 (i : Int) ∧ Below wz.heap.size wz wx)
  case atStart => exact ⟨0, by omega, rfl, rfl, Below.refl _ _⟩
  case round =>
    obtain ⟨i, hi, rfl, rfl, hB3⟩ := hrel
    by_cases h3 : i < 3
    · have href := ref_any i (by omega)
      have gi := cell_later hB3 (HGV.out i h3)
      have m0 := cell_later hB3 M0.out
      have hi1 : (i : Int) < 3 := by omega
      go_upto_region 52 with (go_at_call 8; refine (href _).mono ?_; rintro ex w1 ⟨rfl, hb1⟩; unfold refV)
      clear href gi m0
      have h30 := heap_alloc_new w1 (.cells #[.string (kindB i), .string (nameB i), .string { data := #[] }, .string { data := #[] }, .string { data := #[] }, .string { data := #[] }, .string { data := #[] }, .string { data := #[] }] 30)
      have hb2 : Below wz.heap.size wz (w1.alloc (.cells #[.string (kindB i), .string (nameB i), .string { data := #[] }, .string { data := #[] }, .string { data := #[] }, .string { data := #[] }, .string { data := #[] }, .string { data := #[] }] 30)) := by
        have h := hB3.trans (hb1.mono hB3.size)
        exact h.alloc h.size _
      generalize w1.alloc (.cells #[.string (kindB i), .string (nameB i), .string { data := #[] }, .string { data := #[] }, .string { data := #[] }, .string { data := #[] }, .string { data := #[] }, .string { data := #[] }] 30) = W1 at h30 hb2 ⊢
      generalize w1.heap.size = b22 at h30 ⊢
      clear hb1 hB3
      have hI2 := HI.out.later hb2
      have m1 := cell_later hb2 M1.out
      have k0 : W1.cell? ⟨b22, 0, none⟩ = some (.string (kindB i)) := by simp [World.cell?, h30]
      have k1 : W1.cell? ⟨b22, 1, none⟩ = some (.string (nameB i)) := by simp [World.cell?, h30]
      have k2 : W1.cell? ⟨b22, 2, none⟩ = some (.string { data := #[] }) := by simp [World.cell?, h30]
      have k3 : W1.cell? ⟨b22, 3, none⟩ = some (.string { data := #[] }) := by simp [World.cell?, h30]
      have k4 : W1.cell? ⟨b22, 4, none⟩ = some (.string { data := #[] }) := by simp [World.cell?, h30]
      have k5 : W1.cell? ⟨b22, 5, none⟩ = some (.string { data := #[] }) := by simp [World.cell?, h30]
      have k6 : W1.cell? ⟨b22, 6, none⟩ = some (.string { data := #[] }) := by simp [World.cell?, h30]
      have k7 : W1.cell? ⟨b22, 7, none⟩ = some (.string { data := #[] }) := by simp [World.cell?, h30]
      have r0 : W1.cell? ⟨E i, 0, none⟩ = some (.string (kindB i)) := hI2.entCell i h3 0
      have r1 : W1.cell? ⟨E i, 1, none⟩ = some (.string (nameB i)) := hI2.entCell i h3 1
      have r2 : W1.cell? ⟨E i, 2, none⟩ = some (.string { data := #[] }) := hI2.entCell i h3 2
      have r3 : W1.cell? ⟨E i, 3, none⟩ = some (.string { data := #[] }) := hI2.entCell i h3 3
      have r4 : W1.cell? ⟨E i, 4, none⟩ = some (.string { data := #[] }) := hI2.entCell i h3 4
      have r5 : W1.cell? ⟨E i, 5, none⟩ = some (.string { data := #[] }) := hI2.entCell i h3 5
      have r6 : W1.cell? ⟨E i, 6, none⟩ = some (.string { data := #[] }) := hI2.entCell i h3 6
      have r7 : W1.cell? ⟨E i, 7, none⟩ = some (.string { data := #[] }) := hI2.entCell i h3 7
      have hl : ∀ k, (Instr.lookup 24 (.map (some B)) (refV i) false).run Yba.prog (W1.drewN k) = .ok (.pointer (some ⟨E i, 0, none⟩)) (W1.drewN k) := fun k => by
        have h := look_ref (w := W1.drewN k) (E := E) (c := 3) (by exact hI2.byRef) i (by omega) false
        unfold refAt at h
        simp only [h3, if_true] at h
        exact h
      have hq : ∀ k, (binOp .neq 30 (refV i) (refV i)).run Yba.prog (W1.drewN k) = .ok (.bool false) (W1.drewN k) := fun k => neq_ref _ i (by omega)
      have hp : ∀ k, (binOp .neq 32 (.pointer (some ⟨E i, 0, none⟩)) (.pointer (some ⟨E i, 0, none⟩))).run Yba.prog (W1.drewN k) = .ok (.bool false) (W1.drewN k) := fun k => neq_ptr _ _
      unfold refV at hl hq
      clear hI2
      go_quiet (fail)
      clear hl hq hp m1 r0 r1 r2 r3 r4 r5 r6 r7 k0 k1 k2 k3 k4 k5 k6 k7
      obtain ⟨W2, hW2⟩ : ∃ W2, W2 = W1.drewN nq := ⟨_, rfl⟩
      rw [← hW2]
      have H30 : Hid (W2.heap[b22]? = some (.cells #[.string (kindB i), .string (nameB i), .string { data := #[] }, .string { data := #[] }, .string { data := #[] }, .string { data := #[] }, .string { data := #[] }, .string { data := #[] }] 30 (0, 0))) := by rw [hW2]; exact h30
      have HB2 : Hid (Below wz.heap.size wz W2) := by rw [hW2]; exact below_drewN hb2 _
      clear h30 hb2 hW2
      go_wp2_with fail
      -- the fourth loop: the sources
      go_loopg [23, 24] 5 (fun g s23 s24 wx => ∃ a : Nat, a ≤ 5 ∧ g = 5 - a ∧ s23 = .int .i64 (cnt i T (a * 2) : Int) ∧ s24 = .int .i64 (a : Int) ∧ Below W2.heap.size W2 wx)
      case atStart => exact ⟨0, by omega, rfl, rfl, rfl, Below.refl _ _⟩
      case round =>
        obtain ⟨a, ha, rfl, rfl, rfl, hB4⟩ := hrel
        by_cases ha5 : a < 5
        · have ha6 : (a : Int) < 5 := by omega
          go_wp2_with fail
          -- the fifth loop: the properties
          go_loopg [23, 25] 2 (fun g s23 s25 wx => ∃ b : Nat, b ≤ 2 ∧ g = 2 - b ∧ s23 = .int .i64 (cnt i T (a * 2 + b) : Int) ∧ s25 = .int .i64 (b : Int) ∧ Below W2.heap.size W2 wx)
          case atStart => exact ⟨0, by omega, rfl, rfl, rfl, hB4⟩
          case round =>
            obtain ⟨b, hb, rfl, rfl, rfl, hB5⟩ := hrel
            by_cases hb2 : b < 2
            · have hb6 : (b : Int) < 2 := by omega
              obtain ⟨ct, hct⟩ : ∃ ct, ct = cnt i T (a * 2 + b) := ⟨_, rfl⟩
              have HCt : Hid (ct = cnt i T (a * 2 + b)) := hct
              have hc10 : (ct : Int) ≤ 20 := by
                have := cnt_le i T (a * 2 + b)
                omega
              rw [← hct]
              clear hct
              have hBz := HB2.out.trans (hB5.mono HB2.out.size)
              have hT5 := HT.out.later hBz
              have hI5 := HI.out.later hBz
              have hfind := find_any i a b T.length T ao cp wr rfl HTl.out hT5.ownAt
              obtain ⟨kI, hkI⟩ : ∃ kI, kI = fndI i a b T := ⟨_, rfl⟩
              rw [← hkI] at hfind
              have HKI : Hid (kI = fndI i a b T) := hkI
              have HT5 : Hid (St w wr Mo B E (.slice (some ⟨gv, 0, none⟩) 3 cv) ao cp T) := hT5
              have h305 : wr.heap[b22]? = some (.cells #[.string (kindB i), .string (nameB i), .string { data := #[] }, .string { data := #[] }, .string { data := #[] }, .string { data := #[] }, .string { data := #[] }, .string { data := #[] }] 30 (0, 0)) := (hB5.block _ (Array.getElem?_eq_some_iff.1 H30.out).1).trans H30.out
              have H305 : Hid (wr.heap[b22]? = some (.cells #[.string (kindB i), .string (nameB i), .string { data := #[] }, .string { data := #[] }, .string { data := #[] }, .string { data := #[] }, .string { data := #[] }, .string { data := #[] }] 30 (0, 0))) := h305
              have e11 : wr.cell? ⟨E i, 11, none⟩ = some (.map (mo1 i)) := hI5.entCell i h3 11
              obtain ⟨cl, hcl⟩ : ∃ cl, cl = lastA (look i a b T) := ⟨_, rfl⟩
              obtain ⟨okb, hokb⟩ : ∃ okb, okb = (look i a b T).isSome := ⟨_, rfl⟩
              have HLK : Hid (∀ w', Below wr.heap.size wr w' → (Instr.lookup 34 (.map (mo1 i)) (keyV a b) true).run Yba.prog w' = .ok (.tuple #[.agg cl, .bool okb]) w') := fun w' hw' => by
                have hI6 := hI5.later hw'
                have h := look_reps (hI6.reps i h3) i a b ha5 hb2 (fun x hx => ⟨(hI6.tab x (sub_mem hx).1).1, (sub_mem hx).2⟩) true
                rw [look_sub] at h
                rw [hcl, hokb]
                exact h
              have HCl : Hid (cl = lastA (look i a b T)) := hcl
              have HOk : Hid (okb = (look i a b T).isSome) := hokb
              have HSz : Hid (cl.size = 18) := by rw [hcl]; exact lastA_size _
              have HAl : Hid (cl.all (·.oneCell') = true) := by rw [hcl]; exact lastA_all _
              clear hcl hokb hkI hT5 hI5 h305
              go_upto_region 62 with (go_at_call 11; refine hfind.mono ?_; rintro ex w' ⟨rfl, hw'⟩; rw [hw']; clear hw' w')
              clear hfind
              have hsrc := src_any a ha5
              have hprop := prop_any b hb2
              obtain ⟨W5, hW5⟩ : ∃ W5, W5 = wr := ⟨_, rfl⟩
              rw [← hW5] at hB5 hBz HT5 H305 e11 HLK
              rw [← hW5]
              clear hW5
              go_cut [27, 28] (fun s27 s28 wx => ∃ g, s27 = .pointer (some ⟨g, 0, none⟩) ∧ s28 = .bool okb ∧ wx.heap[g]? = some (.cells cl 49 (0, 0)) ∧ Below W5.heap.size W5 wx)
              case first =>
                refine reg62 (mo1 := mo1) (cl := cl) (okb := okb) ha5 hb2 e11 HLK HSz HAl (fun _ _ _ _ _ h => h) ?_
                intro g wx hgx hbx
                go_wp2_with fail
                go_meet
                exact ⟨g, rfl, rfl, hgx, hbx⟩
              case rest =>
                obtain ⟨g, rfl, rfl, hg, hb7⟩ := hcut
                have hB7 := hB5.trans (hb7.mono hB5.size)
                rcases fnd_cases i a b T with ⟨hk, hl⟩ | ⟨k, x, hk, hx, hkl, hl, hxe, hxs, hxp⟩
                · obtain rfl : okb = false := by rw [HOk.out, hl]; rfl
                  obtain rfl : kI = -1 := by rw [HKI.out, hk]
                  have hcn : cnt i T (a * 2 + (b + 1)) = ct := by rw [cnt_next i a b hb2, hl, HCt.out]; rfl
                  have HCn : Hid (cnt i T (a * 2 + (b + 1)) = ct) := hcn
                  clear hcn hk hl hsrc hprop hg e11
                  go_wp2_with fail
                  go_roundg (2 - (b + 1))
                  case measure => omega
                  case rel => exact ⟨b + 1, by omega, rfl, by rw [HCn.out], by go_num, hB7⟩
                · obtain rfl : okb = true := by rw [HOk.out, hl]; rfl
                  obtain rfl : kI = (k : Int) := by rw [HKI.out, hk]
                  have hcn : cnt i T (a * 2 + (b + 1)) = ct + 1 := by rw [cnt_next i a b hb2, hl, HCt.out]; rfl
                  have HCn : Hid (cnt i T (a * 2 + (b + 1)) = ct + 1) := hcn
                  have hcl : cl = repA i a b x.st x.desc x.seq := by rw [HCl.out, hl, ← hxe, ← hxs, ← hxp]; rfl
                  have hg8 : wc.heap[g]? = some (.cells (repA i a b x.st x.desc x.seq) 49 (0, 0)) := by rw [← hcl]; exact hg
                  have h307 := (hb7.block _ (Array.getElem?_eq_some_iff.1 H305.out).1).trans H305.out
                  have hT7 := HT5.out.later hb7
                  obtain ⟨g', hao, hz, _, _, _, z3, z4, z5⟩ := hT7.at hx
                  subst hao
                  have hk0 : (0 : Int) ≤ (k : Int) := by omega
                  have hk1 : (k : Int) < (T.length : Int) := by omega
                  have t0 : wc.cell? ⟨g, 0, none⟩ = some (.string (kindB i)) := by rw [cell_of hg8]; rfl
                  have t1 : wc.cell? ⟨g, 1, none⟩ = some (.string (nameB i)) := by rw [cell_of hg8]; rfl
                  have t2 : wc.cell? ⟨g, 2, none⟩ = some (.string { data := #[] }) := by rw [cell_of hg8]; rfl
                  have t3 : wc.cell? ⟨g, 3, none⟩ = some (.string { data := #[] }) := by rw [cell_of hg8]; rfl
                  have t4 : wc.cell? ⟨g, 4, none⟩ = some (.string { data := #[] }) := by rw [cell_of hg8]; rfl
                  have t5 : wc.cell? ⟨g, 5, none⟩ = some (.string { data := #[] }) := by rw [cell_of hg8]; rfl
                  have t6 : wc.cell? ⟨g, 6, none⟩ = some (.string { data := #[] }) := by rw [cell_of hg8]; rfl
                  have t7 : wc.cell? ⟨g, 7, none⟩ = some (.string { data := #[] }) := by rw [cell_of hg8]; rfl
                  have t8 : wc.cell? ⟨g, 8, none⟩ = some (.string (srcB a)) := by rw [cell_of hg8]; rfl
                  have t9 : wc.cell? ⟨g, 9, none⟩ = some (.string (propB b)) := by rw [cell_of hg8]; rfl
                  have y0 : wc.cell? ⟨b22, 0, none⟩ = some (.string (kindB i)) := by rw [cell_of h307]; rfl
                  have y1 : wc.cell? ⟨b22, 1, none⟩ = some (.string (nameB i)) := by rw [cell_of h307]; rfl
                  have y2 : wc.cell? ⟨b22, 2, none⟩ = some (.string { data := #[] }) := by rw [cell_of h307]; rfl
                  have y3 : wc.cell? ⟨b22, 3, none⟩ = some (.string { data := #[] }) := by rw [cell_of h307]; rfl
                  have y4 : wc.cell? ⟨b22, 4, none⟩ = some (.string { data := #[] }) := by rw [cell_of h307]; rfl
                  have y5 : wc.cell? ⟨b22, 5, none⟩ = some (.string { data := #[] }) := by rw [cell_of h307]; rfl
                  have y6 : wc.cell? ⟨b22, 6, none⟩ = some (.string { data := #[] }) := by rw [cell_of h307]; rfl
                  have y7 : wc.cell? ⟨b22, 7, none⟩ = some (.string { data := #[] }) := by rw [cell_of h307]; rfl
                  have t10 : wc.cell? ⟨g, 10, none⟩ = some (.int .i64 x.st) := by rw [cell_of hg8]; rfl
                  have t11 : wc.cell? ⟨g, 11, none⟩ = some (.string x.desc) := by rw [cell_of hg8]; rfl
                  have t14 : wc.cell? ⟨g, 14, none⟩ = some (.int .i64 x.seq) := by rw [cell_of hg8]; rfl
                  have hq : ∀ q, (binOp .neq 30 (refV i) (refV i)).run Yba.prog (wc.drewN q) = .ok (.bool false) (wc.drewN q) := fun q => neq_ref _ i (by omega)
                  unfold refV at hq
                  have T10 : Hid (wc.cell? ⟨g, 10, none⟩ = some (.int .i64 x.st)) := t10
                  have T11 : Hid (wc.cell? ⟨g, 11, none⟩ = some (.string x.desc)) := t11
                  have T14 : Hid (wc.cell? ⟨g, 14, none⟩ = some (.int .i64 x.seq)) := t14
                  have Z3 : Hid (wc.cell? ⟨g', k * 6 + 3, none⟩ = some (.int .i64 x.seq)) := z3
                  have Z4 : Hid (wc.cell? ⟨g', k * 6 + 4, none⟩ = some (.int .i64 x.st)) := z4
                  have Z5 : Hid (wc.cell? ⟨g', k * 6 + 5, none⟩ = some (.string x.desc)) := z5
                  clear hcn hcl hg8 hg h307 hT7 hz z3 z4 z5 t10 t11 t14 e11 hk hl hkl hxe hxs hxp
                  go_upto_region 67 with fail
                  go_quiet ((first | (go_at_call 9; exact (hsrc _).mono (fun e w'' h => ⟨h.1, _, h.2⟩)) | (go_at_call 10; exact (hprop _).mono (fun e w'' h => ⟨h.1, _, h.2⟩))))
                  clear hq hsrc hprop t0 t1 t2 t3 t4 t5 t6 t7 t8 t9 y0 y1 y2 y3 y4 y5 y6 y7
                  obtain ⟨W8, hW8⟩ : ∃ W8, W8 = wc.drewN nq := ⟨_, rfl⟩
                  rw [← hW8]
                  have t10 : W8.cell? ⟨g, 10, none⟩ = some (.int .i64 x.st) := by rw [hW8]; exact T10.out
                  have t11 : W8.cell? ⟨g, 11, none⟩ = some (.string x.desc) := by rw [hW8]; exact T11.out
                  have t14 : W8.cell? ⟨g, 14, none⟩ = some (.int .i64 x.seq) := by rw [hW8]; exact T14.out
                  have z3 : W8.cell? ⟨g', k * 6 + 3, none⟩ = some (.int .i64 x.seq) := by rw [hW8]; exact Z3.out
                  have z4 : W8.cell? ⟨g', k * 6 + 4, none⟩ = some (.int .i64 x.st) := by rw [hW8]; exact Z4.out
                  have z5 : W8.cell? ⟨g', k * 6 + 5, none⟩ = some (.string x.desc) := by rw [hW8]; exact Z5.out
                  have HB8 : Hid (Below W2.heap.size W2 W8) := by rw [hW8]; exact below_drewN hB7 _
                  clear hW8 T10 T11 T14 Z3 Z4 Z5 hB7 hb7
                  go_upto_region 69 with fail
                  go_quiet (fail)
                  clear t10 t11 t14 z3 z4 z5
                  go_wp2_with fail
                  go_roundg (2 - (b + 1))
                  case measure => omega
                  case rel => exact ⟨b + 1, by omega, rfl, by rw [HCn.out]; go_num, by go_num, below_drewN HB8.out _⟩
            · have hb6 : b = 2 := by omega
              subst hb6
              go_wp2_with fail
              go_roundg (5 - (a + 1))
              case measure => omega
              case rel => exact ⟨a + 1, by omega, rfl, by rw [show (a + 1) * 2 = a * 2 + 2 by omega], by go_num, hB5⟩
        · have ha6 : a = 5 := by omega
          subst ha6
          have hI4 := HI.out.later (HB2.out.trans (hB4.mono HB2.out.size))
          have e11 : wr.cell? ⟨E i, 11, none⟩ = some (.map (mo1 i)) := hI4.entCell i h3 11
          have hlen := len_reps (hI4.reps i h3)
          have hc : cnt i T (5 * 2) = (sub i T).length := cnt_all i T HT.out.one (fun x hx => (hI4.tab x hx).1)
          rw [hc]
          generalize (sub i T).length = m at hlen ⊢
          clear hc hI4
          go_wp2_with fail
          clear hlen e11
          go_roundg (3 - (i + 1))
          case measure => omega
          case rel => exact ⟨i + 1, by omega, rfl, by go_num, HB2.out.trans (hB4.mono HB2.out.size)⟩
    · have hi3 : i = 3 := by omega
      subst hi3
      go_wp2_with fail
      go_ret
      exact ⟨rfl, HT.out.below.trans (hB3.mono HT.out.below.size)⟩
end
end Go.Proofs.Ybulkbwfg
