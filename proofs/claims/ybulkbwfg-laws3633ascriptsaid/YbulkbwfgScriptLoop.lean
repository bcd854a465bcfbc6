/-
  LawS3633AScript: the steps (her second loop) and what follows, as a law on that part of her text.
-/
import Derived.Test.YbulkbwfgScriptAfter
import Derived.Test.YbulkbwfgScriptEnd
import Derived.Deep.RegionHeld3
import Derived.Deep.CutBlock
namespace Go.Proofs.Ybulkbwfg
open Go.RowKit Go.Proofs

section
set_option maxHeartbeats 8000000
set_option maxRecDepth 100000
theorem loop12 {u1 u2 u4 u5 u6 u8 u9 u10 u11 u12 u13 u14 u15 u16 u17 u18 u19 u20 u21 u22 u23 u24 u25 u26 u27 u28 u29 u30 u31 u32 u33 u34 u35 u36 u37 u38 u39 u40 u41 u42 u43 u44 u45 u46 u47 u48 u49 u50 u51 u52 u53 u54 u55 u56 u57 u58 u59 u60 u61 u62 u63 u64 u65 u66 u67 u68 u69 u70 u71 u72 u73 u74 u75 u76 u77 u78 u79 u80 u81 u82 u83 u84 u85 u86 u87 u88 u89 u90 u91 u92 u93 u94 u95 u96 u97 u98 u99 u100 u101 u102 u103 u104 u105 u106 u107 u108 u109 u110 u111 u112 u113 u114 u115 u116 u117 u118 u119 u120 u121 u122 u123 u124 u125 u126 u127 u128 u129 u130 u131 u132 u133 u134 u135 u136 u137 u138 u139 u140 u141 u142 u143 u144 u145 u146 u147 u148 u149 u150 u151 u152 u153 u154 u155 u156 u157 u158 u159 u160 u161 u162 u163 u164 u165 u166 u167 u168 u169 u170 u171 u172 u173 u174 u175 u176 u177 u178 u179 u180 u181 u182 u183 u184 u185 u186 u187 u188 u189 u190 u191 u192 u193 u194 u195 u196 u197 u198 u199 u200 u201 u202 u203 u204 u205 u206 u207 u208 u209 u210 u211 u212 u213 u214 u215 u216 u217 u218 u219 u220 u221 u222 u223 u224 u225 u226 u227 u228 u229 u230 u231 u232 u233 u234 u235 u236 u237 u238 u239 u240 u241 u242 u243 u244 u245 u246 u247 u248 u249 u250 u251 u252 u253 u254 u255 u256 u257 u258 u259 u260 u261 u262 u263 u264 u265 u266 u267 u268 u269 u270 u271 u272 u273 u274 u275 u276 u277 u278 u279 u280 u281 u282 u283 u284 u285 u286 u287 u288 u289 : Value} {w wz : World} {Mo B n cap mb mo : Nat} {a0 : Option Addr} {S : Steps} {E : Nat → Nat} {v : Value} (hn : n ≤ 1024) (HA : Hid (0 < n → a0 = some ⟨mb, mo, none⟩))
    (HS : Hid (∀ i, i < n → w.cell? ⟨mb, mo + i * 6, none⟩ = some (.int .u8 (S.a i : Int)) ∧ w.cell? ⟨mb, mo + i * 6 + 1, none⟩ = some (.int .u8 (S.s i : Int)) ∧ w.cell? ⟨mb, mo + i * 6 + 2, none⟩ = some (.int .u8 (S.p i : Int)) ∧ w.cell? ⟨mb, mo + i * 6 + 3, none⟩ = some (.int .i64 (S.seq i)) ∧ w.cell? ⟨mb, mo + i * 6 + 4, none⟩ = some (.int .i8 (S.st i)) ∧ w.cell? ⟨mb, mo + i * 6 + 5, none⟩ = some (.string (S.desc i))))
    (HR : Hid (∀ i, i < n → S.a i ≤ 255 ∧ S.s i ≤ 255 ∧ S.p i ≤ 255 ∧ (-9223372036854775808 ≤ S.seq i ∧ S.seq i ≤ 9223372036854775807) ∧ (-128 ≤ S.st i ∧ S.st i ≤ 127))) (hI : Inv w wz Mo B 3 E v (fun _ => none) []) :
    Code.wp Yba.prog code12 (bodyPost Yba.prog Yba.f3 fun ex w' => ex = .returned (.bool true) ∧ Below w.heap.size w w') ⟨#[.slice a0 n cap, u1, u2, .pointer (some ⟨Mo, 0, none⟩), u4, u5, u6, .slice none 0 0, u8, u9, u10, u11, u12, u13, u14, u15, u16, u17, u18, u19, u20, u21, u22, u23, u24, u25, u26, u27, u28, u29, u30, u31, u32, u33, u34, u35, u36, u37, u38, u39, u40, u41, u42, u43, u44, u45, u46, u47, u48, u49, u50, u51, u52, u53, u54, u55, u56, u57, u58, u59, u60, u61, u62, u63, u64, u65, u66, u67, u68, u69, u70, u71, u72, u73, u74, u75, u76, u77, u78, u79, u80, u81, u82, u83, u84, u85, u86, u87, u88, u89, u90, u91, u92, u93, u94, u95, u96, u97, u98, u99, u100, u101, u102, u103, u104, u105, u106, u107, u108, u109, u110, u111, u112, u113, u114, u115, u116, u117, u118, u119, u120, u121, u122, u123, u124, u125, u126, u127, u128, u129, u130, u131, u132, u133, u134, u135, u136, u137, u138, u139, u140, u141, u142, u143, u144, u145, u146, u147, u148, u149, u150, u151, u152, u153, u154, u155, u156, u157, u158, u159, u160, u161, u162, u163, u164, u165, u166, u167, u168, u169, u170, u171, u172, u173, u174, u175, u176, u177, u178, u179, u180, u181, u182, u183, u184, u185, u186, u187, u188, u189, u190, u191, u192, u193, u194, u195, u196, u197, u198, u199, u200, u201, u202, u203, u204, u205, u206, u207, u208, u209, u210, u211, u212, u213, u214, u215, u216, u217, u218, u219, u220, u221, u222, u223, u224, u225, u226, u227, u228, u229, u230, u231, u232, u233, u234, u235, u236, u237, u238, u239, u240, u241, u242, u243, u244, u245, u246, u247, u248, u249, u250, u251, u252, u253, u254, u255, u256, u257, u258, u259, u260, u261, u262, u263, u264, u265, u266, u267, u268, u269, u270, u271, u272, u273, u274, u275, u276, u277, u278, u279, u280, u281, u282, u283, u284, u285, u286, u287, u288, u289], []⟩ wz := by
  conv => arg 2; whnf
  have g1 : ¬ (1024 : Int) < (n : Int) := by omega
  go_wp2_with fail
  -- the second loop: the steps
  go_loopg [7, 62] n (fun g s7 s62 wx => ∃ (j : Nat) (T : List Ent) (ao : Option Addr) (cp : Nat), j ≤ n ∧ g = n - j ∧ T.length ≤ j ∧ s7 = .slice ao T.length cp ∧ s62 = .int .i64 (j : Int) ∧ St w wx Mo B E v ao cp T)
  case atStart => exact ⟨0, [], none, 0, Nat.zero_le _, rfl, Nat.le_refl _, rfl, rfl, ⟨_, hI⟩, World.ownsRow_nil _ _ _ _, List.Pairwise.nil⟩
  case round =>
    obtain ⟨j, T, ao, cp, hj, rfl, hTj, rfl, rfl, hT⟩ := hrel
    clear hI
    by_cases hlt : j < n
    · obtain rfl := HA.out (by omega)
      obtain ⟨d0, d1, d2, d3, d4, d5⟩ := HS.out j hlt
      obtain ⟨ra, rs, rp, rq, rt⟩ := HR.out j hlt
      have hbl := hT.below
      replace d0 := cell_later hbl d0
      replace d1 := cell_later hbl d1
      replace d2 := cell_later hbl d2
      replace d3 := cell_later hbl d3
      replace d4 := cell_later hbl d4
      replace d5 := cell_later hbl d5
      generalize S.a j = xa at d0 ra
      generalize S.s j = xs at d1 rs
      generalize S.p j = xp at d2 rp
      generalize S.seq j = seq at d3 rq
      generalize S.st j = st at d4 rt
      generalize S.desc j = desc at d5
      have t0 : (xa : Int).tmod 4 = ((xa % 4 : Nat) : Int) := by rfl
      have t1 : (xs : Int).tmod 5 = ((xs % 5 : Nat) : Int) := by rfl
      have t2 : (xp : Int).tmod 2 = ((xp % 2 : Nat) : Int) := by rfl
      go_upto_region 18 with fail
      obtain ⟨e, he, hee⟩ : ∃ e : Nat, e < 4 ∧ ((xa : Int) % 4) = (e : Int) := ⟨xa % 4, Nat.mod_lt _ (by decide), by omega⟩
      obtain ⟨s, hs, hss⟩ : ∃ s : Nat, s < 5 ∧ ((xs : Int) % 5) = (s : Int) := ⟨xs % 5, Nat.mod_lt _ (by decide), by omega⟩
      obtain ⟨p, hp, hpp⟩ : ∃ p : Nat, p < 2 ∧ ((xp : Int) % 2) = (p : Int) := ⟨xp % 2, Nat.mod_lt _ (by decide), by omega⟩
      rw [hee, hss, hpp]
      have ha1 := heap_alloc_new wr (.cells #[.int .u8 (xa : Int), .int .u8 (xs : Int), .int .u8 (xp : Int), .int .i64 seq, .int .i8 st, .string desc] 41)
      have hb1 : Below wr.heap.size wr (wr.alloc (.cells #[.int .u8 (xa : Int), .int .u8 (xs : Int), .int .u8 (xp : Int), .int .i64 seq, .int .i8 st, .string desc] 41)) := (Below.refl _ _).alloc (Nat.le_refl _) _
      generalize wr.alloc (.cells #[.int .u8 (xa : Int), .int .u8 (xs : Int), .int .u8 (xp : Int), .int .i64 seq, .int .i8 st, .string desc] 41) = W1 at ha1 hb1 ⊢
      have c3 : W1.cell? ⟨wr.heap.size, 3, none⟩ = some (.int .i64 seq) := by simp [World.cell?, ha1]
      have c4 : W1.cell? ⟨wr.heap.size, 4, none⟩ = some (.int .i8 st) := by simp [World.cell?, ha1]
      have c5 : W1.cell? ⟨wr.heap.size, 5, none⟩ = some (.string desc) := by simp [World.cell?, ha1]
      have hT1 := hT.later hb1
      have HA1 : Hid (W1.heap[wr.heap.size]? = some (.cells #[.int .u8 (xa : Int), .int .u8 (xs : Int), .int .u8 (xp : Int), .int .i64 seq, .int .i8 st, .string desc] 41 (0, 0))) := ha1
      clear d0 d1 d2 d3 d4 d5 hbl ha1 hb1 t0 t1 t2
      have href := ref_any e he
      have hsrc := src_any s hs
      have hprop := prop_any p hp
      have hwst : IntKind.i64.wrap st = st := by simp [IntKind.wrap, IntKind.bits, IntKind.signed]; omega
      obtain ⟨c, hc⟩ : ∃ c, c = repA e s p st desc seq := ⟨_, rfl⟩
      have HC : Hid (c = repA e s p st desc seq) := hc
      have HSz : Hid (c.size = 18) := by rw [hc]; exact repA_size _ _ _ _ _ _
      have HAl : Hid (c.all (·.oneCell') = true) := by rw [hc]; exact repA_all _ _ _ _ _ _
      clear hc
      go_cut [13] (fun s13 wx => ∃ g, s13 = .pointer (some ⟨g, 0, none⟩) ∧ wx.heap[g]? = some (.cells c 49 (0, 0)) ∧ Below W1.heap.size W1 wx)
      case first =>
        refine reg18 he hs hp c3 c4 c5 hwst HC HSz HAl (fun _ _ _ _ _ h => h) ?_
        intro g wx hgx hbx
        go_wp2_with fail
        go_meet
        exact ⟨g, rfl, hgx, hbx⟩
      case rest =>
        obtain ⟨g, rfl, hg49, hb2⟩ := hcut
        generalize wc = Wc at *
        have hT2 := hT1.later hb2
        replace c3 := cell_later hb2 c3
        replace c4 := cell_later hb2 c4
        replace c5 := cell_later hb2 c5
        have hA2 := (hb2.block _ (Array.getElem?_eq_some_iff.1 HA1.out).1).trans HA1.out
        have HA2 : Hid (Wc.heap[wr.heap.size]? = some (.cells #[.int .u8 (xa : Int), .int .u8 (xs : Int), .int .u8 (xp : Int), .int .i64 seq, .int .i8 st, .string desc] 41 (0, 0))) := hA2
        clear hA2 HA1 href hsrc hprop HAl hT hb2
        obtain ⟨mo1, hI2⟩ := hT2.inv
        have HQ : Hid (-9223372036854775808 ≤ seq ∧ seq ≤ 9223372036854775807) := rq
        have HJ : Hid (j < n ∧ T.length ≤ j ∧ n ≤ 1024) := ⟨hlt, hTj, hn⟩
        have HE : Hid (e < 4 ∧ s < 5 ∧ p < 2) := ⟨he, hs, hp⟩
        have HI2 : Hid (Inv w Wc Mo B 3 E v mo1 T) := hI2
        have HT2 : Hid (St w Wc Mo B E v ao cp T) := hT2
        have hres := res_any s hs
        have hfind := find_any e s p T.length T ao cp Wc rfl (by omega) hT2.ownAt
        clear ra rs rp rt rq hee hss hpp hlt hTj hj hn g1 he hs hp hI2 hT2 hT1
        obtain ⟨kI, hkI⟩ : ∃ kI, kI = fndI e s p T := ⟨_, rfl⟩
        obtain ⟨last, hlast⟩ : ∃ last, last = seqOf (look e s p T) := ⟨_, rfl⟩
        rw [← hkI] at hfind
        have HL : Hid (seqOf (look e s p T) = last) := hlast.symm
        have HF : Hid ((fnd e s p T = none ∧ kI = -1 ∧ last = 0) ∨ ∃ k x, fnd e s p T = some k ∧ kI = (k : Int) ∧ T[k]? = some x ∧ k < T.length ∧ last = x.seq) := by
          cases hf : fnd e s p T with
          | none => exact Or.inl ⟨rfl, by rw [hkI]; unfold fndI; rw [hf], by rw [hlast, look_none hf]; rfl⟩
          | some k =>
            obtain ⟨x, hx, hlk⟩ := look_of_fnd hf
            exact Or.inr ⟨k, x, rfl, by rw [hkI]; unfold fndI; rw [hf], hx, fnd_lt hf, by rw [hlast, hlk]; rfl⟩
        have HB : Hid (-9223372036854775808 ≤ last ∧ last ≤ 9223372036854775807) := by
          rcases HF.out with ⟨_, _, h0⟩ | ⟨k, x, hf, _, hx, _, h0⟩
          · rw [h0]; exact ⟨by decide, by decide⟩
          · rw [h0]; exact (HI2.out.tab x (List.mem_of_getElem? hx)).2.2
        clear hkI hlast
        go_upto_if 98 with (go_at_call 11; refine hfind.mono ?_; rintro ex w' ⟨rfl, hw'⟩; rw [hw']; clear hw' w')
        go_cut [15] (fun s15 wx => s15 = .int .i64 last ∧ wx = Wc)
        case first =>
          rcases HF.out with ⟨_, hk, h0⟩ | ⟨k, x, hf, hk, hx, hkl, h0⟩
          · have hk1 : ¬ ((0 : Int) ≤ kI) := by omega
            have H0 : Hid (last = 0) := h0
            clear hk h0 hfind hres c3 c4 c5
            go_wp2_with fail
            go_meet
            exact ⟨by rw [H0.out], rfl⟩
          · obtain ⟨g', hao, _, _, _, _, q3, _, _⟩ := HT2.out.at hx
            subst hk
            subst hao
            have hk0 : (0 : Int) ≤ (k : Int) := by omega
            have hk1 : (k : Int) < (T.length : Int) := by omega
            rw [← h0] at q3
            clear h0 hkl hfind hres c3 c4 c5
            go_wp2_with fail
            go_meet
            exact ⟨rfl, rfl⟩
        case rest =>
          obtain ⟨rfl, hwc⟩ := hcut
          rw [hwc]
          clear hwc wc
          clear hfind
          go_upto_block 4 with fail
          go_cut [10, 15, 16, 17] (fun s10 s15 s16 s17 wx => (wx = Wc) ∧ s10 = .int .i64 (e : Int) ∧ s15 = .int .i64 last ∧ s16 = .string (outB e s (newSeq last seq)) ∧ ∃ q, s17 = .int .i64 q ∧ (¬ resB s = true → ¬ e = 3 → ∀ q', newSeq last seq = some q' → q = q'))
          case first =>
            refine sw4 (Rel := fun s10 s15 s16 s17 => s10 = .int .i64 (e : Int) ∧ s15 = .int .i64 last ∧ s16 = .string (outB e s (newSeq last seq)) ∧ ∃ q, s17 = .int .i64 q ∧ (¬ resB s = true → ¬ e = 3 → ∀ q', newSeq last seq = some q' → q = q')) HE.out.2.1 c3 HB (fun _ _ _ _ h => h) ?_
            intro s10 s15 s16 s17 _ _ _ _ _ _ _ _ _ _ _ _ _ _ _ _ _ _ _ _ _ _ _ _ _ _ _ hrel4
            go_wp2_with fail
            go_meet
            exact ⟨rfl, hrel4⟩
          case rest =>
            obtain ⟨hwc, rfl, rfl, rfl, q, rfl, hq⟩ := hcut
            rw [hwc]
            clear hwc wc c3 c4 c5
            have HW : Hid (IntKind.i64.wrap st = st) := hwst
            clear hwst
            by_cases hP : resB s = true ∨ e = 3 ∨ newSeq last seq = none
            · have hnn : (outB e s (newSeq last seq) = reserved ∨ outB e s (newSeq last seq) = unknown ∨ outB e s (newSeq last seq) = stale) ∧ nextT e s p st desc (newSeq last seq) T = T := by
                unfold outB nextT
                by_cases hr : resB s = true
                · rw [if_pos hr, if_pos hr]
                  exact ⟨Or.inl rfl, rfl⟩
                · rw [if_neg hr, if_neg hr]
                  by_cases h3 : e = 3
                  · rw [if_pos h3, if_pos h3]
                    exact ⟨Or.inr (Or.inl rfl), rfl⟩
                  · rw [if_neg h3, if_neg h3]
                    rcases hP with h | h | h
                    · exact absurd h hr
                    · exact absurd h h3
                    · rw [h]
                      exact ⟨Or.inr (Or.inr rfl), rfl⟩
              obtain ⟨hne, hnt⟩ := hnn
              have happ : Calls Yba.prog 13 #[.pointer (some ⟨Mo, 0, none⟩), .agg c] Wc fun ex w' => ex = .returned (.string (outB e s (newSeq last seq))) ∧ St w w' Mo B E v ao cp T := by
                have h := apply_any w Wc Mo B E v mo1 T e s p st desc seq HE.out.1 HE.out.2.1 HE.out.2.2 HQ.out HI2.out
                rw [HC.out]
                refine h.mono ?_
                rintro ex w' ⟨hO, hSz', rfl, mo', hI'⟩
                rw [HL.out, hnt] at hI'
                rw [HL.out]
                exact ⟨rfl, ⟨mo', hI'⟩, own_old HT2.out.own hO, HT2.out.one⟩
              clear hP hnt hq
              apply_assumption
              refine endP hne hg49 HSz happ ?_
              intro W3 _ _ _ _ _ _ _ _ _ hT3
              obtain ⟨hj1, hj2, hj3⟩ := HJ.out
              have g1 : (n : Int) ≤ 1024 := by omega
              have g2 : (j : Int) < (n : Int) := by omega
              go_wp2_with fail
              go_roundg (n - (j + 1))
              case measure => omega
              case rel => exact ⟨j + 1, T, _, cp, by omega, rfl, by omega, rfl, by go_num, hT3⟩
            · have hr : ¬ resB s = true := fun h => hP (Or.inl h)
              have h3 : ¬ e = 3 := fun h => hP (Or.inr (Or.inl h))
              obtain ⟨q', hq'⟩ : ∃ q', newSeq last seq = some q' := by
                cases h : newSeq last seq with
                | none => exact absurd (Or.inr (Or.inr h)) hP
                | some q' => exact ⟨q', rfl⟩
              obtain rfl := hq hr h3 q' hq'
              have happ : Calls Yba.prog 13 #[.pointer (some ⟨Mo, 0, none⟩), .agg c] Wc fun ex w' => ex = .returned (.string { data := #[] }) ∧ Old Wc w' ∧ ∃ mo', Inv w w' Mo B 3 E v mo' (putE ⟨e, s, p, q, st, desc⟩ T) := by
                have h := apply_any w Wc Mo B E v mo1 T e s p st desc seq HE.out.1 HE.out.2.1 HE.out.2.2 HQ.out HI2.out
                rw [HC.out]
                refine h.mono ?_
                rintro ex w' ⟨hO, hSz', rfl, mo', hI'⟩
                rw [HL.out, hq'] at hI' ⊢
                unfold nextT at hI'
                rw [if_neg hr, if_neg h3] at hI'
                unfold outB
                rw [if_neg hr, if_neg h3]
                exact ⟨rfl, hO, mo', hI'⟩
              have hob : outB e s (newSeq last seq) = { data := #[] } := by unfold outB; rw [if_neg hr, if_neg h3, hq']
              rw [hob]
              clear hob hq' hq hr h3 hP
              have hwst : IntKind.i64.wrap st = st := HW.out
              rcases HF.out with ⟨hf, hk, _⟩ | ⟨k, x, hf, hk, hx, hkl, _⟩
              · have hk1 : ¬ ((0 : Int) ≤ kI) := by omega
                clear hk
                have HTl : Hid (T.length < 1024) := by (have hjj := HJ.out); unfold Hid; omega
                apply_assumption
                refine endN hf hk1 HTl hg49 HSz hwst HA2 HT2 happ ?_
                intro W6 ao6 cp6 _ _ _ _ _ _ _ _ _ _ _ _ _ _ _ _ _ _ _ _ _ _ _ _ _ _ hT6
                obtain ⟨hj1, hj2, hj3⟩ := HJ.out
                have g1 : (n : Int) ≤ 1024 := by omega
                have g2 : (j : Int) < (n : Int) := by omega
                go_wp2_with fail
                go_roundg (n - (j + 1))
                case measure => omega
                case rel => exact ⟨j + 1, putE ⟨e, s, p, q, st, desc⟩ T, ao6, cp6, by omega, rfl, by rw [put_app (x := ⟨e, s, p, q, st, desc⟩) hf, List.length_append]; show T.length + 1 ≤ j + 1; omega, rfl, by go_num, hT6⟩
              · obtain ⟨g', hao, _, _, _, _, _, _, _⟩ := HT2.out.at hx
                subst hk
                subst hao
                apply_assumption
                refine endS hf hx hkl hg49 HSz hwst HA2 HT2 happ ?_
                intro W5 _ _ _ _ _ _ _ _ _ _ _ _ _ _ _ _ _ _ _ _ _ _ _ _ _ _ hT5
                obtain ⟨hj1, hj2, hj3⟩ := HJ.out
                have g1 : (n : Int) ≤ 1024 := by omega
                have g2 : (j : Int) < (n : Int) := by omega
                go_wp2_with fail
                go_roundg (n - (j + 1))
                case measure => omega
                case rel => exact ⟨j + 1, putE ⟨e, s, p, q, st, desc⟩ T, _, cp, by omega, rfl, by rw [put_set (x := ⟨e, s, p, q, st, desc⟩) hf, List.length_set]; omega, by rw [put_set (x := ⟨e, s, p, q, st, desc⟩) hf, List.length_set], by go_num, hT5⟩
    · have hjn : j = n := by omega
      subst hjn
      obtain ⟨mo1, hI1⟩ := hT.inv
      obtain ⟨gv, cv, rfl, hgv⟩ := hI1.slice
      have HGV : Hid (∀ i, i < 3 → wr.cell? ⟨gv, i, none⟩ = some (.pointer (some ⟨E i, 0, none⟩))) := hgv
      have m0 : wr.cell? ⟨Mo, 0, none⟩ = some (.slice (some ⟨gv, 0, none⟩) 3 cv) := by simp [World.cell?, hI1.model]
      have m1 : wr.cell? ⟨Mo, 1, none⟩ = some (.map (some B)) := by simp [World.cell?, hI1.model]
      have hlen := len_ref hI1.byRef
      obtain ⟨wz, hwz⟩ : ∃ wz, wz = wr := ⟨_, rfl⟩
      rw [← hwz] at hT hI1 HGV m0 m1 hlen
      rw [← hwz]
      have HT : Hid (St w wz Mo B E (.slice (some ⟨gv, 0, none⟩) 3 cv) ao cp T) := hT
      have HI : Hid (Inv w wz Mo B 3 E (.slice (some ⟨gv, 0, none⟩) 3 cv) mo1 T) := hI1
      have HTl : Hid (T.length ≤ 1024) := by unfold Hid; omega
      clear hwz hgv hT hI1 HS HR HA
      have M0 : Hid (wz.cell? ⟨Mo, 0, none⟩ = some (.slice (some ⟨gv, 0, none⟩) 3 cv)) := m0
      have M1 : Hid (wz.cell? ⟨Mo, 1, none⟩ = some (.map (some B))) := m1
      go_upto_if 173 with fail
      go_cut [2] (fun s2 wx => wx = wz)
      case first =>
        go_wp2_with fail
        go_meet
        exact rfl
      case rest =>
        rw [hcut]
        clear hcut hlen m0 m1
        apply_assumption
        exact after47 HT HI HTl HGV M0 M1
end
end Go.Proofs.Ybulkbwfg
