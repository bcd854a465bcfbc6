/-
  LawS3633AScript: one statement of hers ('r := Report{..}', region 18), which draws its order.
-/
import Derived.Test.YbulkbwfgScriptReg
namespace Go.Proofs.Ybulkbwfg
open Go.RowKit Go.Proofs

noncomputable def code18 : Code := cL (cR (cR (cR (cR code14))))

section
set_option maxHeartbeats 8000000
set_option maxRecDepth 100000
theorem reg18 {u0 u1 u2 u3 u4 u5 u6 u7 u8 u13 u14 u15 u16 u17 u18 u19 u20 u21 u22 u23 u24 u25 u26 u27 u28 u29 u30 u31 u32 u33 u34 u35 u36 u37 u38 u39 u40 u41 u42 u43 u44 u45 u46 u47 u48 u49 u50 u51 u52 u53 u54 u55 u56 u57 u58 u59 u60 u61 u62 u63 u64 u65 u66 u67 u68 u69 u70 u71 u72 u73 u74 u75 u76 u77 u78 u79 u80 u81 u82 u83 u84 u85 u86 u87 u88 u89 u90 u91 u92 u93 u94 u95 u96 u97 u98 u99 u100 u101 u102 u103 u104 u105 u106 u107 u108 u109 u110 u111 u112 u113 u114 u115 u116 u117 u118 u119 u120 u121 u122 u123 u124 u125 u126 u127 u128 u129 u130 u131 u132 u133 u134 u135 u136 u137 u138 u139 u140 u141 u142 u143 u144 u145 u146 u147 u148 u149 u150 u151 u152 u153 u154 u155 u156 u157 u158 u159 u160 u161 u162 u163 u164 u165 u166 u167 u168 u169 u170 u171 u172 u173 u174 u175 u176 u177 u178 u179 u180 u181 u182 u183 u184 u185 u186 u187 u188 u189 u190 u191 u192 u193 u194 u195 u196 u197 u198 u199 u200 u201 u202 u203 u204 u205 u206 u207 u208 u209 u210 u211 u212 u213 u214 u215 u216 u217 u218 u219 u220 u221 u222 u223 u224 u225 u226 u227 u228 u229 u230 u231 u232 u233 u234 u235 u236 u237 u238 u239 u240 u241 u242 u243 u244 u245 u246 u247 u248 u249 u250 u251 u252 u253 u254 u255 u256 u257 u258 u259 u260 u261 u262 u263 u264 u265 u266 u267 u268 u269 u270 u271 u272 u273 u274 u275 u276 u277 u278 u279 u280 u281 u282 u283 u284 u285 u286 u287 u288 u289 : Value} {W1 : World} {n9 e s p : Nat} {st seq : Int} {desc : ByteArray} {c : Array Value} {Q : Exit → Act → World → Prop} (he : e < 4) (hs : s < 5) (hp : p < 2) (c3 : W1.cell? ⟨n9, 3, none⟩ = some (.int .i64 seq)) (c4 : W1.cell? ⟨n9, 4, none⟩ = some (.int .i8 st)) (c5 : W1.cell? ⟨n9, 5, none⟩ = some (.string desc))
    (hwst : IntKind.i64.wrap st = st) (HC : Hid (c = repA e s p st desc seq)) (HSz : Hid (c.size = 18)) (HAl : Hid (c.all (·.oneCell') = true))
    (hpan : ∀ (c : _) (a : Act) (d : Tmp) (v : Value) (w : World), Q (.panic c) (a.put (some d) v) w → Q (.panic c) a w)
    (hQ : ∀ (g : Nat) {wx : World}, wx.heap[g]? = some (.cells c 49 (0, 0)) → Below W1.heap.size W1 wx → Q .normal ⟨#[u0, u1, u2, u3, u4, u5, u6, u7, u8, .pointer (some ⟨n9, 0, none⟩), .int .i64 (e : Int), .int .i64 (s : Int), .int .i64 (p : Int), .pointer (some ⟨g, 0, none⟩), u14, u15, u16, u17, u18, u19, u20, u21, u22, u23, u24, u25, u26, u27, u28, u29, u30, u31, u32, u33, u34, u35, u36, u37, u38, u39, u40, u41, u42, u43, u44, u45, u46, u47, u48, u49, u50, u51, u52, u53, u54, u55, u56, u57, u58, u59, u60, u61, u62, u63, u64, u65, u66, u67, u68, u69, u70, u71, u72, u73, u74, u75, u76, u77, .int .i64 (e : Int), refV e, .int .i64 (s : Int), .string (srcB s), .int .i64 (p : Int), .string (propB p), .pointer (some ⟨n9, 4, none⟩), .int .i8 st, .int .i64 st, .pointer (some ⟨n9, 5, none⟩), .string desc, .pointer (some ⟨n9, 3, none⟩), .int .i64 seq, .agg c, u92, u93, u94, u95, u96, u97, u98, u99, u100, u101, u102, u103, u104, u105, u106, u107, u108, u109, u110, u111, u112, u113, u114, u115, u116, u117, u118, u119, u120, u121, u122, u123, u124, u125, u126, u127, u128, u129, u130, u131, u132, u133, u134, u135, u136, u137, u138, u139, u140, u141, u142, u143, u144, u145, u146, u147, u148, u149, u150, u151, u152, u153, u154, u155, u156, u157, u158, u159, u160, u161, u162, u163, u164, u165, u166, u167, u168, u169, u170, u171, u172, u173, u174, u175, u176, u177, u178, u179, u180, u181, u182, u183, u184, u185, u186, u187, u188, u189, u190, u191, u192, u193, u194, u195, u196, u197, u198, u199, u200, u201, u202, u203, u204, u205, u206, u207, u208, u209, u210, u211, u212, u213, u214, u215, u216, u217, u218, u219, u220, u221, u222, u223, u224, u225, u226, u227, u228, u229, u230, u231, u232, u233, u234, u235, u236, u237, u238, u239, u240, u241, u242, u243, u244, u245, u246, u247, u248, u249, u250, u251, u252, u253, u254, u255, u256, u257, u258, u259, u260, u261, u262, u263, u264, u265, u266, u267, u268, u269, u270, u271, u272, u273, u274, u275, u276, u277, u278, u279, u280, u281, u282, u283, u284, u285, u286, u287, u288, u289], []⟩ wx) :
    Code.wp Yba.prog code18 Q ⟨#[u0, u1, u2, u3, u4, u5, u6, u7, u8, .pointer (some ⟨n9, 0, none⟩), .int .i64 (e : Int), .int .i64 (s : Int), .int .i64 (p : Int), u13, u14, u15, u16, u17, u18, u19, u20, u21, u22, u23, u24, u25, u26, u27, u28, u29, u30, u31, u32, u33, u34, u35, u36, u37, u38, u39, u40, u41, u42, u43, u44, u45, u46, u47, u48, u49, u50, u51, u52, u53, u54, u55, u56, u57, u58, u59, u60, u61, u62, u63, u64, u65, u66, u67, u68, u69, u70, u71, u72, u73, u74, u75, u76, u77, u78, u79, u80, u81, u82, u83, u84, u85, u86, u87, u88, u89, u90, u91, u92, u93, u94, u95, u96, u97, u98, u99, u100, u101, u102, u103, u104, u105, u106, u107, u108, u109, u110, u111, u112, u113, u114, u115, u116, u117, u118, u119, u120, u121, u122, u123, u124, u125, u126, u127, u128, u129, u130, u131, u132, u133, u134, u135, u136, u137, u138, u139, u140, u141, u142, u143, u144, u145, u146, u147, u148, u149, u150, u151, u152, u153, u154, u155, u156, u157, u158, u159, u160, u161, u162, u163, u164, u165, u166, u167, u168, u169, u170, u171, u172, u173, u174, u175, u176, u177, u178, u179, u180, u181, u182, u183, u184, u185, u186, u187, u188, u189, u190, u191, u192, u193, u194, u195, u196, u197, u198, u199, u200, u201, u202, u203, u204, u205, u206, u207, u208, u209, u210, u211, u212, u213, u214, u215, u216, u217, u218, u219, u220, u221, u222, u223, u224, u225, u226, u227, u228, u229, u230, u231, u232, u233, u234, u235, u236, u237, u238, u239, u240, u241, u242, u243, u244, u245, u246, u247, u248, u249, u250, u251, u252, u253, u254, u255, u256, u257, u258, u259, u260, u261, u262, u263, u264, u265, u266, u267, u268, u269, u270, u271, u272, u273, u274, u275, u276, u277, u278, u279, u280, u281, u282, u283, u284, u285, u286, u287, u288, u289], []⟩ W1 := by
  conv => arg 2; whnf
  have href := ref_any e he
  have hsrc := src_any s hs
  have hprop := prop_any p hp
  refine wp_region_held_drew (S := fun w' => Below W1.heap.size W1 w') (by kernel_rfl) (Below.refl _ _).drew (fun hHeld => ?_)
  refine wpAnyH_take (i := 0) (oi := ⟨some 78, _, _, _, _, _⟩) (v := .int .i64 (e : Int)) rfl (by kernel_rfl) (by kernel_rfl) (by kernel_rfl) (fun _ _ _ h => hpan _ _ _ _ _ h) (Or.inl ⟨by rfl, fun w hSw => by go_simp⟩) (by assumption) ?_
  try simp only [Act.put, List.setIfInBounds_toArray, List.set_cons_zero, List.set_cons_succ]
  refine wpAnyH_take (i := 2) (oi := ⟨some 80, _, _, _, _, _⟩) (v := .int .i64 (s : Int)) rfl (by kernel_rfl) (by kernel_rfl) (by kernel_rfl) (fun _ _ _ h => hpan _ _ _ _ _ h) (Or.inl ⟨by rfl, fun w hSw => by go_simp⟩) (by assumption) ?_
  try simp only [Act.put, List.setIfInBounds_toArray, List.set_cons_zero, List.set_cons_succ]
  refine wpAnyH_take (i := 4) (oi := ⟨some 82, _, _, _, _, _⟩) (v := .int .i64 (p : Int)) rfl (by kernel_rfl) (by kernel_rfl) (by kernel_rfl) (fun _ _ _ h => hpan _ _ _ _ _ h) (Or.inl ⟨by rfl, fun w hSw => by go_simp⟩) (by assumption) ?_
  try simp only [Act.put, List.setIfInBounds_toArray, List.set_cons_zero, List.set_cons_succ]
  refine wpAnyH_take (i := 6) (oi := ⟨some 84, _, _, _, _, _⟩) (v := .pointer (some ⟨n9, 4, none⟩)) rfl (by kernel_rfl) (by kernel_rfl) (by kernel_rfl) (fun _ _ _ h => hpan _ _ _ _ _ h) (Or.inl ⟨by rfl, fun w hSw => by go_simp⟩) (by assumption) ?_
  try simp only [Act.put, List.setIfInBounds_toArray, List.set_cons_zero, List.set_cons_succ]
  refine wpAnyH_take (i := 9) (oi := ⟨some 87, _, _, _, _, _⟩) (v := .pointer (some ⟨n9, 5, none⟩)) rfl (by kernel_rfl) (by kernel_rfl) (by kernel_rfl) (fun _ _ _ h => hpan _ _ _ _ _ h) (Or.inl ⟨by rfl, fun w hSw => by go_simp⟩) (by assumption) ?_
  try simp only [Act.put, List.setIfInBounds_toArray, List.set_cons_zero, List.set_cons_succ]
  refine wpAnyH_take (i := 11) (oi := ⟨some 89, _, _, _, _, _⟩) (v := .pointer (some ⟨n9, 3, none⟩)) rfl (by kernel_rfl) (by kernel_rfl) (by kernel_rfl) (fun _ _ _ h => hpan _ _ _ _ _ h) (Or.inl ⟨by rfl, fun w hSw => by go_simp⟩) (by assumption) ?_
  try simp only [Act.put, List.setIfInBounds_toArray, List.set_cons_zero, List.set_cons_succ]
  refine wpAnyH_take (i := 7) (oi := ⟨some 85, _, _, _, _, _⟩) (v := .int .i8 st) rfl (by kernel_rfl) (by kernel_rfl) (by kernel_rfl) (fun _ _ _ h => hpan _ _ _ _ _ h) (Or.inl ⟨by rfl, fun w hSw => by (have hcc := cell_later hSw c4); clear hSw; go_simp⟩) (by assumption) ?_
  try simp only [Act.put, List.setIfInBounds_toArray, List.set_cons_zero, List.set_cons_succ]
  refine wpAnyH_take (i := 10) (oi := ⟨some 88, _, _, _, _, _⟩) (v := .string desc) rfl (by kernel_rfl) (by kernel_rfl) (by kernel_rfl) (fun _ _ _ h => hpan _ _ _ _ _ h) (Or.inl ⟨by rfl, fun w hSw => by (have hcc := cell_later hSw c5); clear hSw; go_simp⟩) (by assumption) ?_
  try simp only [Act.put, List.setIfInBounds_toArray, List.set_cons_zero, List.set_cons_succ]
  refine wpAnyH_take (i := 12) (oi := ⟨some 90, _, _, _, _, _⟩) (v := .int .i64 seq) rfl (by kernel_rfl) (by kernel_rfl) (by kernel_rfl) (fun _ _ _ h => hpan _ _ _ _ _ h) (Or.inl ⟨by rfl, fun w hSw => by (have hcc := cell_later hSw c3); clear hSw; go_simp⟩) (by assumption) ?_
  try simp only [Act.put, List.setIfInBounds_toArray, List.set_cons_zero, List.set_cons_succ]
  refine wpAnyH_take (i := 8) (oi := ⟨some 86, _, _, _, _, _⟩) (v := .int .i64 st) rfl (by kernel_rfl) (by kernel_rfl) (by kernel_rfl) (fun _ _ _ h => hpan _ _ _ _ _ h) (Or.inl ⟨by rfl, fun w hSw => by (have hwr := hwst); go_simp⟩) (by assumption) ?_
  try simp only [Act.put, List.setIfInBounds_toArray, List.set_cons_zero, List.set_cons_succ]
  obtain ⟨W2, hW2⟩ : ∃ W2, W2 = W1.drew := ⟨_, rfl⟩
  rw [← hW2] at hHeld ⊢
  clear hW2
  refine wpAnyH_ready (rs := [1, 14]) (by kernel_rfl) (by simp) ?_
  refine (AllReadyH.cons rfl (fun K hK => ?_) (AllReadyH.cons rfl (fun K hK => ?_) AllReadyH.nil))
  · go_simp
    refine (href _).mono ?_
    rintro ex w3 ⟨rfl, hb3⟩
    refine hK.out _ _ (hHeld.trans (hb3.mono hHeld.size)) (fun hHeld => ?_)
    clear hK K hb3
    try simp only [Act.put, List.setIfInBounds_toArray, List.set_cons_zero, List.set_cons_succ]
    refine wpAnyH_ready (rs := [3, 14]) (by kernel_rfl) (by simp) ?_
    refine (AllReadyH.cons rfl (fun K hK => ?_) (AllReadyH.cons rfl (fun K hK => ?_) AllReadyH.nil))
    · go_simp
      refine (hsrc _).mono ?_
      rintro ex w4 ⟨rfl, hw4⟩
      rw [hw4]
      clear hw4 w4
      refine hK.out _ _ hHeld (fun hHeld => ?_)
      clear hK K
      try simp only [Act.put, List.setIfInBounds_toArray, List.set_cons_zero, List.set_cons_succ]
      refine wpAnyH_ready (rs := [5, 14]) (by kernel_rfl) (by simp) ?_
      refine (AllReadyH.cons rfl (fun K hK => ?_) (AllReadyH.cons rfl (fun K hK => ?_) AllReadyH.nil))
      · go_simp
        refine (hprop _).mono ?_
        rintro ex w4 ⟨rfl, hw4⟩
        rw [hw4]
        clear hw4 w4
        refine hK.out _ _ hHeld (fun hHeld => ?_)
        clear hK K
        try simp only [Act.put, List.setIfInBounds_toArray, List.set_cons_zero, List.set_cons_succ]
        refine wpAnyH_take (i := 13) (oi := ⟨some 91, _, _, _, _, _⟩) (v := .agg c) rfl (by kernel_rfl) (by kernel_rfl) (by kernel_rfl) (fun _ _ _ h => hpan _ _ _ _ _ h) (Or.inl ⟨by rfl, fun w hSw => by (rw [HC.out]); unfold repA refV; go_simp⟩) (by assumption) ?_
        try simp only [Act.put, List.setIfInBounds_toArray, List.set_cons_zero, List.set_cons_succ]
        refine wpAnyH_ready (rs := [14]) (by kernel_rfl) (by simp) ?_
        refine (AllReadyH.cons rfl (fun K hK => ?_) AllReadyH.nil)
        · go_simp
          have hz := heap_alloc_new w3 (.cells zRepA 49)
          have hgl : W1.heap.size ≤ w3.heap.size := hHeld.size
          refine hK.out _ _ (hHeld.alloc hHeld.size (.cells zRepA 49)) (fun hHeld => ?_)
          clear hK K
          replace hHeld : Below W1.heap.size W1 (w3.alloc (.cells zRepA 49)) := hHeld
          change wpAnyH _ _ _ _ _ _ _ _ (w3.alloc (.cells zRepA 49))
          generalize w3.alloc (.cells zRepA 49) = Wa at hz hHeld ⊢
          generalize w3.heap.size = g at hz hgl ⊢
          have HZ : Hid (Wa.heap[g]? = some (.cells zRepA 49 (0, 0))) := hz
          have HG : Hid (W1.heap.size ≤ g) := hgl
          clear hz hgl
          refine wpAnyH_ready (rs := [15]) (by kernel_rfl) (by simp) ?_
          refine AllReadyH.cons rfl (fun K hK => ?_) AllReadyH.nil
          refine step_store49 rfl (.tmp 13) (.tmp 91) rfl g rfl c zRepA rfl HZ.out rfl HSz.out HAl.out ?_
          try go_simp
          refine hK.out _ _ (below_setRow hHeld HG.out _) (fun hHeld => ?_)
          clear hK K
          try simp only [Act.put, List.setIfInBounds_toArray, List.set_cons_zero, List.set_cons_succ]
          refine wpAnyH_done (by kernel_rfl) ?_ _
          exact hQ g (heap_setRow _ _ _ _ _ HZ.out) hHeld
      · go_simp
        have hz := heap_alloc_new w3 (.cells zRepA 49)
        have hgl : W1.heap.size ≤ w3.heap.size := hHeld.size
        refine hK.out _ _ (hHeld.alloc hHeld.size (.cells zRepA 49)) (fun hHeld => ?_)
        clear hK K
        replace hHeld : Below W1.heap.size W1 (w3.alloc (.cells zRepA 49)) := hHeld
        change wpAnyH _ _ _ _ _ _ _ _ (w3.alloc (.cells zRepA 49))
        generalize w3.alloc (.cells zRepA 49) = Wa at hz hHeld ⊢
        generalize w3.heap.size = g at hz hgl ⊢
        have HZ : Hid (Wa.heap[g]? = some (.cells zRepA 49 (0, 0))) := hz
        have HG : Hid (W1.heap.size ≤ g) := hgl
        clear hz hgl
        refine wpAnyH_ready (rs := [5]) (by kernel_rfl) (by simp) ?_
        refine (AllReadyH.cons rfl (fun K hK => ?_) AllReadyH.nil)
        · go_simp
          refine (hprop _).mono ?_
          rintro ex w4 ⟨rfl, hw4⟩
          rw [hw4]
          clear hw4 w4
          refine hK.out _ _ hHeld (fun hHeld => ?_)
          clear hK K
          try simp only [Act.put, List.setIfInBounds_toArray, List.set_cons_zero, List.set_cons_succ]
          refine wpAnyH_take (i := 13) (oi := ⟨some 91, _, _, _, _, _⟩) (v := .agg c) rfl (by kernel_rfl) (by kernel_rfl) (by kernel_rfl) (fun _ _ _ h => hpan _ _ _ _ _ h) (Or.inl ⟨by rfl, fun w hSw => by (rw [HC.out]); unfold repA refV; go_simp⟩) (by assumption) ?_
          try simp only [Act.put, List.setIfInBounds_toArray, List.set_cons_zero, List.set_cons_succ]
          refine wpAnyH_ready (rs := [15]) (by kernel_rfl) (by simp) ?_
          refine AllReadyH.cons rfl (fun K hK => ?_) AllReadyH.nil
          refine step_store49 rfl (.tmp 13) (.tmp 91) rfl g rfl c zRepA rfl HZ.out rfl HSz.out HAl.out ?_
          try go_simp
          refine hK.out _ _ (below_setRow hHeld HG.out _) (fun hHeld => ?_)
          clear hK K
          try simp only [Act.put, List.setIfInBounds_toArray, List.set_cons_zero, List.set_cons_succ]
          refine wpAnyH_done (by kernel_rfl) ?_ _
          exact hQ g (heap_setRow _ _ _ _ _ HZ.out) hHeld
    · go_simp
      have hz := heap_alloc_new w3 (.cells zRepA 49)
      have hgl : W1.heap.size ≤ w3.heap.size := hHeld.size
      refine hK.out _ _ (hHeld.alloc hHeld.size (.cells zRepA 49)) (fun hHeld => ?_)
      clear hK K
      replace hHeld : Below W1.heap.size W1 (w3.alloc (.cells zRepA 49)) := hHeld
      change wpAnyH _ _ _ _ _ _ _ _ (w3.alloc (.cells zRepA 49))
      generalize w3.alloc (.cells zRepA 49) = Wa at hz hHeld ⊢
      generalize w3.heap.size = g at hz hgl ⊢
      have HZ : Hid (Wa.heap[g]? = some (.cells zRepA 49 (0, 0))) := hz
      have HG : Hid (W1.heap.size ≤ g) := hgl
      clear hz hgl
      refine wpAnyH_ready (rs := [3]) (by kernel_rfl) (by simp) ?_
      refine (AllReadyH.cons rfl (fun K hK => ?_) AllReadyH.nil)
      · go_simp
        refine (hsrc _).mono ?_
        rintro ex w4 ⟨rfl, hw4⟩
        rw [hw4]
        clear hw4 w4
        refine hK.out _ _ hHeld (fun hHeld => ?_)
        clear hK K
        try simp only [Act.put, List.setIfInBounds_toArray, List.set_cons_zero, List.set_cons_succ]
        refine wpAnyH_ready (rs := [5]) (by kernel_rfl) (by simp) ?_
        refine (AllReadyH.cons rfl (fun K hK => ?_) AllReadyH.nil)
        · go_simp
          refine (hprop _).mono ?_
          rintro ex w4 ⟨rfl, hw4⟩
          rw [hw4]
          clear hw4 w4
          refine hK.out _ _ hHeld (fun hHeld => ?_)
          clear hK K
          try simp only [Act.put, List.setIfInBounds_toArray, List.set_cons_zero, List.set_cons_succ]
          refine wpAnyH_take (i := 13) (oi := ⟨some 91, _, _, _, _, _⟩) (v := .agg c) rfl (by kernel_rfl) (by kernel_rfl) (by kernel_rfl) (fun _ _ _ h => hpan _ _ _ _ _ h) (Or.inl ⟨by rfl, fun w hSw => by (rw [HC.out]); unfold repA refV; go_simp⟩) (by assumption) ?_
          try simp only [Act.put, List.setIfInBounds_toArray, List.set_cons_zero, List.set_cons_succ]
          refine wpAnyH_ready (rs := [15]) (by kernel_rfl) (by simp) ?_
          refine AllReadyH.cons rfl (fun K hK => ?_) AllReadyH.nil
          refine step_store49 rfl (.tmp 13) (.tmp 91) rfl g rfl c zRepA rfl HZ.out rfl HSz.out HAl.out ?_
          try go_simp
          refine hK.out _ _ (below_setRow hHeld HG.out _) (fun hHeld => ?_)
          clear hK K
          try simp only [Act.put, List.setIfInBounds_toArray, List.set_cons_zero, List.set_cons_succ]
          refine wpAnyH_done (by kernel_rfl) ?_ _
          exact hQ g (heap_setRow _ _ _ _ _ HZ.out) hHeld
  · go_simp
    have hz := heap_alloc_new W2 (.cells zRepA 49)
    have hgl : W1.heap.size ≤ W2.heap.size := hHeld.size
    refine hK.out _ _ (hHeld.alloc hHeld.size (.cells zRepA 49)) (fun hHeld => ?_)
    clear hK K
    replace hHeld : Below W1.heap.size W1 (W2.alloc (.cells zRepA 49)) := hHeld
    change wpAnyH _ _ _ _ _ _ _ _ (W2.alloc (.cells zRepA 49))
    generalize W2.alloc (.cells zRepA 49) = Wa at hz hHeld ⊢
    generalize W2.heap.size = g at hz hgl ⊢
    have HZ : Hid (Wa.heap[g]? = some (.cells zRepA 49 (0, 0))) := hz
    have HG : Hid (W1.heap.size ≤ g) := hgl
    clear hz hgl
    refine wpAnyH_ready (rs := [1]) (by kernel_rfl) (by simp) ?_
    refine (AllReadyH.cons rfl (fun K hK => ?_) AllReadyH.nil)
    · go_simp
      refine (href _).mono ?_
      rintro ex w3 ⟨rfl, hb3⟩
      have HZ : Hid (w3.heap[g]? = some (.cells zRepA 49 (0, 0))) := (hb3.block _ (Array.getElem?_eq_some_iff.1 HZ.out).1).trans HZ.out
      refine hK.out _ _ (hHeld.trans (hb3.mono hHeld.size)) (fun hHeld => ?_)
      clear hK K hb3
      try simp only [Act.put, List.setIfInBounds_toArray, List.set_cons_zero, List.set_cons_succ]
      refine wpAnyH_ready (rs := [3]) (by kernel_rfl) (by simp) ?_
      refine (AllReadyH.cons rfl (fun K hK => ?_) AllReadyH.nil)
      · go_simp
        refine (hsrc _).mono ?_
        rintro ex w4 ⟨rfl, hw4⟩
        rw [hw4]
        clear hw4 w4
        refine hK.out _ _ hHeld (fun hHeld => ?_)
        clear hK K
        try simp only [Act.put, List.setIfInBounds_toArray, List.set_cons_zero, List.set_cons_succ]
        refine wpAnyH_ready (rs := [5]) (by kernel_rfl) (by simp) ?_
        refine (AllReadyH.cons rfl (fun K hK => ?_) AllReadyH.nil)
        · go_simp
          refine (hprop _).mono ?_
          rintro ex w4 ⟨rfl, hw4⟩
          rw [hw4]
          clear hw4 w4
          refine hK.out _ _ hHeld (fun hHeld => ?_)
          clear hK K
          try simp only [Act.put, List.setIfInBounds_toArray, List.set_cons_zero, List.set_cons_succ]
          refine wpAnyH_take (i := 13) (oi := ⟨some 91, _, _, _, _, _⟩) (v := .agg c) rfl (by kernel_rfl) (by kernel_rfl) (by kernel_rfl) (fun _ _ _ h => hpan _ _ _ _ _ h) (Or.inl ⟨by rfl, fun w hSw => by (rw [HC.out]); unfold repA refV; go_simp⟩) (by assumption) ?_
          try simp only [Act.put, List.setIfInBounds_toArray, List.set_cons_zero, List.set_cons_succ]
          refine wpAnyH_ready (rs := [15]) (by kernel_rfl) (by simp) ?_
          refine AllReadyH.cons rfl (fun K hK => ?_) AllReadyH.nil
          refine step_store49 rfl (.tmp 13) (.tmp 91) rfl g rfl c zRepA rfl HZ.out rfl HSz.out HAl.out ?_
          try go_simp
          refine hK.out _ _ (below_setRow hHeld HG.out _) (fun hHeld => ?_)
          clear hK K
          try simp only [Act.put, List.setIfInBounds_toArray, List.set_cons_zero, List.set_cons_succ]
          refine wpAnyH_done (by kernel_rfl) ?_ _
          exact hQ g (heap_setRow _ _ _ _ _ HZ.out) hHeld
end
end Go.Proofs.Ybulkbwfg
