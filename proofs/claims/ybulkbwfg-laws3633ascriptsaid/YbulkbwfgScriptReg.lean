/-
  LawS3633AScript: one statement of hers ('rep, ok := e.reports[..]', region 62), which draws its order.
-/
import Derived.Test.YbulkbwfgScriptCheck
import Derived.Deep.RegionHeld3
namespace Go.Proofs.Ybulkbwfg
open Go.RowKit Go.Proofs

theorem cell_later {w wx : World} {a : Addr} {v : Value} (hb : Below w.heap.size w wx) (h : w.cell? a = some v) : wx.cell? a = some v := (hb.cell (World.block_lt_of_cell? _ _ h)).trans h

def ops62 : Array Oper := #[{ dst := some 217, op := Go.Op.move (Go.Operand.tmp 21), type := 32, pos := "zz_law_s3633a.go:138", after := #[], guard := none }, { dst := some 218, op := Go.Op.nilCheck (Go.Operand.tmp 217), type := 0, pos := "zz_law_s3633a.go:138", after := #[{ on := 0, ground := Go.Ground.data }], guard := none }, { dst := some 219, op := Go.Op.fieldAddr 37 (Go.Operand.tmp 218) 4, type := 0, pos := "zz_law_s3633a.go:138", after := #[{ on := 1, ground := Go.Ground.data }], guard := none }, { dst := some 220, op := Go.Op.load 34 (Go.Operand.tmp 219), type := 34, pos := "zz_law_s3633a.go:138", after := #[{ on := 2, ground := Go.Ground.data }], guard := none }, { dst := some 221, op := Go.Op.move (Go.Operand.tmp 24), type := 3, pos := "zz_law_s3633a.go:138", after := #[], guard := none }, { dst := some 222, op := Go.Op.call { callee := Go.Callee.value (Go.Operand.func 9), args := #[Go.Operand.tmp 221], argTypes := #[3] }, type := 9, pos := "zz_law_s3633a.go:138", after := #[{ on := 4, ground := Go.Ground.data }], guard := none }, { dst := some 223, op := Go.Op.move (Go.Operand.tmp 25), type := 3, pos := "zz_law_s3633a.go:138", after := #[], guard := none }, { dst := some 224, op := Go.Op.call { callee := Go.Callee.value (Go.Operand.func 10), args := #[Go.Operand.tmp 223], argTypes := #[3] }, type := 9, pos := "zz_law_s3633a.go:138", after := #[{ on := 6, ground := Go.Ground.data }, { on := 5, ground := Go.Ground.chain }], guard := none }, { dst := some 225, op := Go.Op.build 58 #[(0, Go.Operand.tmp 222), (1, Go.Operand.tmp 224)], type := 58, pos := "zz_law_s3633a.go:138", after := #[{ on := 5, ground := Go.Ground.data }, { on := 7, ground := Go.Ground.data }], guard := none }, { dst := some 226, op := Go.Op.lookup 34 (Go.Operand.tmp 220) (Go.Operand.tmp 225) true, type := 56, pos := "zz_law_s3633a.go:138", after := #[{ on := 3, ground := Go.Ground.data }, { on := 8, ground := Go.Ground.data }], guard := none }, { dst := some 216, op := Go.Op.move (Go.Operand.tmp 226), type := 56, pos := "zz_law_s3633a.go:138", after := #[{ on := 9, ground := Go.Ground.data }], guard := none }, { dst := some 227, op := Go.Op.extract (Go.Operand.tmp 216) 0, type := 49, pos := "zz_law_s3633a.go:138", after := #[{ on := 10, ground := Go.Ground.data }], guard := none }, { dst := some 228, op := Go.Op.extract (Go.Operand.tmp 216) 1, type := 4, pos := "zz_law_s3633a.go:138", after := #[{ on := 10, ground := Go.Ground.data }, { on := 14, ground := Go.Ground.gcOnly Go.Departure.lateStores }], guard := none }, { dst := some 27, op := Go.Op.alloc 49, type := 0, pos := "zz_law_s3633a.go:138", after := #[], guard := none }, { dst := none, op := Go.Op.store 49 (Go.Operand.tmp 27) (Go.Operand.tmp 227), type := 0, pos := "zz_law_s3633a.go:138", after := #[{ on := 13, ground := Go.Ground.data }, { on := 11, ground := Go.Ground.data }, { on := 7, ground := Go.Ground.chain }, { on := 0, ground := Go.Ground.phase }, { on := 1, ground := Go.Ground.phase }, { on := 2, ground := Go.Ground.phase }, { on := 3, ground := Go.Ground.phase }, { on := 4, ground := Go.Ground.phase }, { on := 5, ground := Go.Ground.phase }, { on := 6, ground := Go.Ground.phase }, { on := 7, ground := Go.Ground.phase }, { on := 8, ground := Go.Ground.phase }, { on := 9, ground := Go.Ground.phase }, { on := 10, ground := Go.Ground.phase }, { on := 11, ground := Go.Ground.phase }, { on := 12, ground := Go.Ground.textOnly Go.Departure.lateStores }, { on := 13, ground := Go.Ground.phase }], guard := none }, { dst := some 28, op := Go.Op.assign (Go.Operand.tmp 228), type := 4, pos := "zz_law_s3633a.go:138", after := #[{ on := 12, ground := Go.Ground.data }, { on := 14, ground := Go.Ground.chain }, { on := 0, ground := Go.Ground.phase }, { on := 1, ground := Go.Ground.phase }, { on := 2, ground := Go.Ground.phase }, { on := 3, ground := Go.Ground.phase }, { on := 4, ground := Go.Ground.phase }, { on := 5, ground := Go.Ground.phase }, { on := 6, ground := Go.Ground.phase }, { on := 7, ground := Go.Ground.phase }, { on := 8, ground := Go.Ground.phase }, { on := 9, ground := Go.Ground.phase }, { on := 10, ground := Go.Ground.phase }, { on := 11, ground := Go.Ground.phase }, { on := 12, ground := Go.Ground.phase }, { on := 13, ground := Go.Ground.phase }, { on := 14, ground := Go.Ground.phase }], guard := none }]

section
set_option maxHeartbeats 8000000
set_option maxRecDepth 100000
theorem reg62 {u0 u1 u2 u3 u4 u5 u6 u7 u8 u9 u10 u11 u12 u13 u14 u15 u16 u17 u18 u19 u20 u22 u23 u26 u27 u28 u29 u30 u31 u32 u33 u34 u35 u36 u37 u38 u39 u40 u41 u42 u43 u44 u45 u46 u47 u48 u49 u50 u51 u52 u53 u54 u55 u56 u57 u58 u59 u60 u61 u62 u63 u64 u65 u66 u67 u68 u69 u70 u71 u72 u73 u74 u75 u76 u77 u78 u79 u80 u81 u82 u83 u84 u85 u86 u87 u88 u89 u90 u91 u92 u93 u94 u95 u96 u97 u98 u99 u100 u101 u102 u103 u104 u105 u106 u107 u108 u109 u110 u111 u112 u113 u114 u115 u116 u117 u118 u119 u120 u121 u122 u123 u124 u125 u126 u127 u128 u129 u130 u131 u132 u133 u134 u135 u136 u137 u138 u139 u140 u141 u142 u143 u144 u145 u146 u147 u148 u149 u150 u151 u152 u153 u154 u155 u156 u157 u158 u159 u160 u161 u162 u163 u164 u165 u166 u167 u168 u169 u170 u171 u172 u173 u174 u175 u176 u177 u178 u179 u180 u181 u182 u183 u184 u185 u186 u187 u188 u189 u190 u191 u192 u193 u194 u195 u196 u197 u198 u199 u200 u201 u202 u203 u204 u205 u206 u207 u208 u209 u210 u211 u212 u213 u214 u215 u216 u217 u218 u219 u220 u221 u222 u223 u224 u225 u226 u227 u228 u229 u230 u231 u232 u233 u234 u235 u236 u237 u238 u239 u240 u241 u242 u243 u244 u245 u246 u247 u248 u249 u250 u251 u252 u253 u254 u255 u256 u257 u258 u259 u260 u261 u262 u263 u264 u265 u266 u267 u268 u269 u270 u271 u272 u273 u274 u275 u276 u277 u278 u279 u280 u281 u282 u283 u284 u285 u286 u287 u288 u289 : Value} {W5 : World} {E : Nat → Nat} {mo1 : Nat → Option Nat} {i a b : Nat} {cl : Array Value} {okb : Bool} {Q : Exit → Act → World → Prop} (ha5 : a < 5) (hb2 : b < 2) (e11 : W5.cell? ⟨E i, 11, none⟩ = some (.map (mo1 i)))
    (HLK : Hid (∀ w', Below W5.heap.size W5 w' → (Instr.lookup 34 (.map (mo1 i)) (keyV a b) true).run Yba.prog w' = .ok (.tuple #[.agg cl, .bool okb]) w')) (HSz : Hid (cl.size = 18)) (HAl : Hid (cl.all (·.oneCell') = true))
    (hpan : ∀ (c : _) (a : Act) (d : Tmp) (v : Value) (w : World), Q (.panic c) (a.put (some d) v) w → Q (.panic c) a w)
    (hQ : ∀ (g : Nat) {wx : World}, wx.heap[g]? = some (.cells cl 49 (0, 0)) → Below W5.heap.size W5 wx → Q .normal ⟨#[u0, u1, u2, u3, u4, u5, u6, u7, u8, u9, u10, u11, u12, u13, u14, u15, u16, u17, u18, u19, u20, .pointer (some ⟨E i, 0, none⟩), u22, u23, .int .i64 (a : Int), .int .i64 (b : Int), u26, .pointer (some ⟨g, 0, none⟩), .bool okb, u29, u30, u31, u32, u33, u34, u35, u36, u37, u38, u39, u40, u41, u42, u43, u44, u45, u46, u47, u48, u49, u50, u51, u52, u53, u54, u55, u56, u57, u58, u59, u60, u61, u62, u63, u64, u65, u66, u67, u68, u69, u70, u71, u72, u73, u74, u75, u76, u77, u78, u79, u80, u81, u82, u83, u84, u85, u86, u87, u88, u89, u90, u91, u92, u93, u94, u95, u96, u97, u98, u99, u100, u101, u102, u103, u104, u105, u106, u107, u108, u109, u110, u111, u112, u113, u114, u115, u116, u117, u118, u119, u120, u121, u122, u123, u124, u125, u126, u127, u128, u129, u130, u131, u132, u133, u134, u135, u136, u137, u138, u139, u140, u141, u142, u143, u144, u145, u146, u147, u148, u149, u150, u151, u152, u153, u154, u155, u156, u157, u158, u159, u160, u161, u162, u163, u164, u165, u166, u167, u168, u169, u170, u171, u172, u173, u174, u175, u176, u177, u178, u179, u180, u181, u182, u183, u184, u185, u186, u187, u188, u189, u190, u191, u192, u193, u194, u195, u196, u197, u198, u199, u200, u201, u202, u203, u204, u205, u206, u207, u208, u209, u210, u211, u212, u213, u214, u215, .tuple #[.agg cl, .bool okb], .pointer (some ⟨E i, 0, none⟩), .pointer (some ⟨E i, 0, none⟩), .pointer (some ⟨E i, 11, none⟩), .map (mo1 i), .int .i64 (a : Int), .string (srcB a), .int .i64 (b : Int), .string (propB b), .agg #[.string (srcB a), .string (propB b)], .tuple #[.agg cl, .bool okb], .agg cl, .bool okb, u229, u230, u231, u232, u233, u234, u235, u236, u237, u238, u239, u240, u241, u242, u243, u244, u245, u246, u247, u248, u249, u250, u251, u252, u253, u254, u255, u256, u257, u258, u259, u260, u261, u262, u263, u264, u265, u266, u267, u268, u269, u270, u271, u272, u273, u274, u275, u276, u277, u278, u279, u280, u281, u282, u283, u284, u285, u286, u287, u288, u289], []⟩ wx) :
    Code.wp Yba.prog (Code.region 62 ops62 true) Q ⟨#[u0, u1, u2, u3, u4, u5, u6, u7, u8, u9, u10, u11, u12, u13, u14, u15, u16, u17, u18, u19, u20, .pointer (some ⟨E i, 0, none⟩), u22, u23, .int .i64 (a : Int), .int .i64 (b : Int), u26, u27, u28, u29, u30, u31, u32, u33, u34, u35, u36, u37, u38, u39, u40, u41, u42, u43, u44, u45, u46, u47, u48, u49, u50, u51, u52, u53, u54, u55, u56, u57, u58, u59, u60, u61, u62, u63, u64, u65, u66, u67, u68, u69, u70, u71, u72, u73, u74, u75, u76, u77, u78, u79, u80, u81, u82, u83, u84, u85, u86, u87, u88, u89, u90, u91, u92, u93, u94, u95, u96, u97, u98, u99, u100, u101, u102, u103, u104, u105, u106, u107, u108, u109, u110, u111, u112, u113, u114, u115, u116, u117, u118, u119, u120, u121, u122, u123, u124, u125, u126, u127, u128, u129, u130, u131, u132, u133, u134, u135, u136, u137, u138, u139, u140, u141, u142, u143, u144, u145, u146, u147, u148, u149, u150, u151, u152, u153, u154, u155, u156, u157, u158, u159, u160, u161, u162, u163, u164, u165, u166, u167, u168, u169, u170, u171, u172, u173, u174, u175, u176, u177, u178, u179, u180, u181, u182, u183, u184, u185, u186, u187, u188, u189, u190, u191, u192, u193, u194, u195, u196, u197, u198, u199, u200, u201, u202, u203, u204, u205, u206, u207, u208, u209, u210, u211, u212, u213, u214, u215, u216, u217, u218, u219, u220, u221, u222, u223, u224, u225, u226, u227, u228, u229, u230, u231, u232, u233, u234, u235, u236, u237, u238, u239, u240, u241, u242, u243, u244, u245, u246, u247, u248, u249, u250, u251, u252, u253, u254, u255, u256, u257, u258, u259, u260, u261, u262, u263, u264, u265, u266, u267, u268, u269, u270, u271, u272, u273, u274, u275, u276, u277, u278, u279, u280, u281, u282, u283, u284, u285, u286, u287, u288, u289], []⟩ W5 := by
  unfold ops62
  have hsrc := src_any a ha5
  have hprop := prop_any b hb2
  refine wp_region_held_drew (S := fun w' => Below W5.heap.size W5 w') (by kernel_rfl) (Below.refl _ _).drew (fun hHeld => ?_)
  refine wpAnyH_take (i := 0) (oi := ⟨some 217, _, _, _, _, _⟩) (v := .pointer (some ⟨E i, 0, none⟩)) rfl (by kernel_rfl) (by kernel_rfl) (by kernel_rfl) (fun _ _ _ h => hpan _ _ _ _ _ h) (Or.inl ⟨by rfl, fun w hSw => by go_simp⟩) (by assumption) ?_
  try simp only [Act.put, List.setIfInBounds_toArray, List.set_cons_zero, List.set_cons_succ]
  refine wpAnyH_take (i := 1) (oi := ⟨some 218, _, _, _, _, _⟩) (v := .pointer (some ⟨E i, 0, none⟩)) rfl (by kernel_rfl) (by kernel_rfl) (by kernel_rfl) (fun _ _ _ h => hpan _ _ _ _ _ h) (Or.inl ⟨by rfl, fun w hSw => by go_simp⟩) (by assumption) ?_
  try simp only [Act.put, List.setIfInBounds_toArray, List.set_cons_zero, List.set_cons_succ]
  refine wpAnyH_take (i := 2) (oi := ⟨some 219, _, _, _, _, _⟩) (v := .pointer (some ⟨E i, 11, none⟩)) rfl (by kernel_rfl) (by kernel_rfl) (by kernel_rfl) (fun _ _ _ h => hpan _ _ _ _ _ h) (Or.inl ⟨by rfl, fun w hSw => by go_simp⟩) (by assumption) ?_
  try simp only [Act.put, List.setIfInBounds_toArray, List.set_cons_zero, List.set_cons_succ]
  refine wpAnyH_take (i := 4) (oi := ⟨some 221, _, _, _, _, _⟩) (v := .int .i64 (a : Int)) rfl (by kernel_rfl) (by kernel_rfl) (by kernel_rfl) (fun _ _ _ h => hpan _ _ _ _ _ h) (Or.inl ⟨by rfl, fun w hSw => by go_simp⟩) (by assumption) ?_
  try simp only [Act.put, List.setIfInBounds_toArray, List.set_cons_zero, List.set_cons_succ]
  refine wpAnyH_take (i := 6) (oi := ⟨some 223, _, _, _, _, _⟩) (v := .int .i64 (b : Int)) rfl (by kernel_rfl) (by kernel_rfl) (by kernel_rfl) (fun _ _ _ h => hpan _ _ _ _ _ h) (Or.inl ⟨by rfl, fun w hSw => by go_simp⟩) (by assumption) ?_
  try simp only [Act.put, List.setIfInBounds_toArray, List.set_cons_zero, List.set_cons_succ]
  refine wpAnyH_take (i := 3) (oi := ⟨some 220, _, _, _, _, _⟩) (v := .map (mo1 i)) rfl (by kernel_rfl) (by kernel_rfl) (by kernel_rfl) (fun _ _ _ h => hpan _ _ _ _ _ h) (Or.inl ⟨by rfl, fun w hSw => by (have hcc := cell_later hSw e11); clear hSw; go_simp⟩) (by assumption) ?_
  try simp only [Act.put, List.setIfInBounds_toArray, List.set_cons_zero, List.set_cons_succ]
  obtain ⟨W6, hW6⟩ : ∃ W6, W6 = W5.drew := ⟨_, rfl⟩
  rw [← hW6] at hHeld ⊢
  clear hW6
  refine wpAnyH_ready (rs := [5, 13]) (by kernel_rfl) (by simp) ?_
  refine (AllReadyH.cons rfl (fun K hK => ?_) (AllReadyH.cons rfl (fun K hK => ?_) AllReadyH.nil))
  · go_simp
    refine (hsrc _).mono ?_
    rintro ex w4 ⟨rfl, hw4⟩
    rw [hw4]
    clear hw4 w4
    refine hK.out _ _ hHeld (fun hHeld => ?_)
    clear hK K
    try simp only [Act.put, List.setIfInBounds_toArray, List.set_cons_zero, List.set_cons_succ]
    refine wpAnyH_ready (rs := [7, 13]) (by kernel_rfl) (by simp) ?_
    refine (AllReadyH.cons rfl (fun K hK => ?_) (AllReadyH.cons rfl (fun K hK => ?_) AllReadyH.nil))
    · go_simp
      refine (hprop _).mono ?_
      rintro ex w4 ⟨rfl, hw4⟩
      rw [hw4]
      clear hw4 w4
      refine hK.out _ _ hHeld (fun hHeld => ?_)
      clear hK K
      try simp only [Act.put, List.setIfInBounds_toArray, List.set_cons_zero, List.set_cons_succ]
      refine wpAnyH_take (i := 8) (oi := ⟨some 225, _, _, _, _, _⟩) (v := .agg #[.string (srcB a), .string (propB b)]) rfl (by kernel_rfl) (by kernel_rfl) (by kernel_rfl) (fun _ _ _ h => hpan _ _ _ _ _ h) (Or.inl ⟨by rfl, fun w hSw => by go_simp⟩) (by assumption) ?_
      try simp only [Act.put, List.setIfInBounds_toArray, List.set_cons_zero, List.set_cons_succ]
      refine wpAnyH_take (i := 9) (oi := ⟨some 226, _, _, _, _, _⟩) (v := .tuple #[.agg cl, .bool okb]) rfl (by kernel_rfl) (by kernel_rfl) (by kernel_rfl) (fun _ _ _ h => hpan _ _ _ _ _ h) (Or.inl ⟨by rfl, fun w hSw => by (have hlk := HLK.out w hSw); (unfold keyV at hlk); clear hSw; go_simp⟩) (by assumption) ?_
      try simp only [Act.put, List.setIfInBounds_toArray, List.set_cons_zero, List.set_cons_succ]
      refine wpAnyH_take (i := 10) (oi := ⟨some 216, _, _, _, _, _⟩) (v := .tuple #[.agg cl, .bool okb]) rfl (by kernel_rfl) (by kernel_rfl) (by kernel_rfl) (fun _ _ _ h => hpan _ _ _ _ _ h) (Or.inl ⟨by rfl, fun w hSw => by go_simp⟩) (by assumption) ?_
      try simp only [Act.put, List.setIfInBounds_toArray, List.set_cons_zero, List.set_cons_succ]
      refine wpAnyH_take (i := 11) (oi := ⟨some 227, _, _, _, _, _⟩) (v := .agg cl) rfl (by kernel_rfl) (by kernel_rfl) (by kernel_rfl) (fun _ _ _ h => hpan _ _ _ _ _ h) (Or.inl ⟨by rfl, fun w hSw => by go_simp⟩) (by assumption) ?_
      try simp only [Act.put, List.setIfInBounds_toArray, List.set_cons_zero, List.set_cons_succ]
      refine wpAnyH_take (i := 12) (oi := ⟨some 228, _, _, _, _, _⟩) (v := .bool okb) rfl (by kernel_rfl) (by kernel_rfl) (by kernel_rfl) (fun _ _ _ h => hpan _ _ _ _ _ h) (Or.inl ⟨by rfl, fun w hSw => by go_simp⟩) (by assumption) ?_
      try simp only [Act.put, List.setIfInBounds_toArray, List.set_cons_zero, List.set_cons_succ]
      refine wpAnyH_ready (rs := [13]) (by kernel_rfl) (by simp) ?_
      refine (AllReadyH.cons rfl (fun K hK => ?_) AllReadyH.nil)
      · go_simp
        have hz := heap_alloc_new W6 (.cells zRepA 49)
        have hgl : W5.heap.size ≤ W6.heap.size := hHeld.size
        refine hK.out _ _ (hHeld.alloc hHeld.size (.cells zRepA 49)) (fun hHeld => ?_)
        clear hK K
        replace hHeld : Below W5.heap.size W5 (W6.alloc (.cells zRepA 49)) := hHeld
        change wpAnyH _ _ _ _ _ _ _ _ (W6.alloc (.cells zRepA 49))
        generalize W6.alloc (.cells zRepA 49) = Wa at hz hHeld ⊢
        generalize W6.heap.size = g at hz hgl ⊢
        have HZ : Hid (Wa.heap[g]? = some (.cells zRepA 49 (0, 0))) := hz
        have HG : Hid (W5.heap.size ≤ g) := hgl
        clear hz hgl
        refine wpAnyH_ready (rs := [14]) (by kernel_rfl) (by simp) ?_
        refine AllReadyH.cons rfl (fun K hK => ?_) AllReadyH.nil
        refine step_store49 rfl (.tmp 27) (.tmp 227) rfl g rfl cl zRepA rfl HZ.out rfl HSz.out HAl.out ?_
        try go_simp
        refine hK.out _ _ (below_setRow hHeld HG.out _) (fun hHeld => ?_)
        clear hK K
        try simp only [Act.put, List.setIfInBounds_toArray, List.set_cons_zero, List.set_cons_succ]
        refine wpAnyH_take (i := 15) (oi := ⟨some 28, _, _, _, _, _⟩) (v := .bool okb) rfl (by kernel_rfl) (by kernel_rfl) (by kernel_rfl) (fun _ _ _ h => hpan _ _ _ _ _ h) (Or.inl ⟨by rfl, fun w hSw => by go_simp⟩) (by assumption) ?_
        try simp only [Act.put, List.setIfInBounds_toArray, List.set_cons_zero, List.set_cons_succ]
        refine wpAnyH_done (by kernel_rfl) ?_ _
        exact hQ g (heap_setRow _ _ _ _ _ HZ.out) hHeld
    · go_simp
      have hz := heap_alloc_new W6 (.cells zRepA 49)
      have hgl : W5.heap.size ≤ W6.heap.size := hHeld.size
      refine hK.out _ _ (hHeld.alloc hHeld.size (.cells zRepA 49)) (fun hHeld => ?_)
      clear hK K
      replace hHeld : Below W5.heap.size W5 (W6.alloc (.cells zRepA 49)) := hHeld
      change wpAnyH _ _ _ _ _ _ _ _ (W6.alloc (.cells zRepA 49))
      generalize W6.alloc (.cells zRepA 49) = Wa at hz hHeld ⊢
      generalize W6.heap.size = g at hz hgl ⊢
      have HZ : Hid (Wa.heap[g]? = some (.cells zRepA 49 (0, 0))) := hz
      have HG : Hid (W5.heap.size ≤ g) := hgl
      clear hz hgl
      refine wpAnyH_ready (rs := [7]) (by kernel_rfl) (by simp) ?_
      refine (AllReadyH.cons rfl (fun K hK => ?_) AllReadyH.nil)
      · go_simp
        refine (hprop _).mono ?_
        rintro ex w4 ⟨rfl, hw4⟩
        rw [hw4]
        clear hw4 w4
        refine hK.out _ _ hHeld (fun hHeld => ?_)
        clear hK K
        try simp only [Act.put, List.setIfInBounds_toArray, List.set_cons_zero, List.set_cons_succ]
        refine wpAnyH_take (i := 8) (oi := ⟨some 225, _, _, _, _, _⟩) (v := .agg #[.string (srcB a), .string (propB b)]) rfl (by kernel_rfl) (by kernel_rfl) (by kernel_rfl) (fun _ _ _ h => hpan _ _ _ _ _ h) (Or.inl ⟨by rfl, fun w hSw => by go_simp⟩) (by assumption) ?_
        try simp only [Act.put, List.setIfInBounds_toArray, List.set_cons_zero, List.set_cons_succ]
        refine wpAnyH_take (i := 9) (oi := ⟨some 226, _, _, _, _, _⟩) (v := .tuple #[.agg cl, .bool okb]) rfl (by kernel_rfl) (by kernel_rfl) (by kernel_rfl) (fun _ _ _ h => hpan _ _ _ _ _ h) (Or.inl ⟨by rfl, fun w hSw => by (have hlk := HLK.out w hSw); (unfold keyV at hlk); clear hSw; go_simp⟩) (by assumption) ?_
        try simp only [Act.put, List.setIfInBounds_toArray, List.set_cons_zero, List.set_cons_succ]
        refine wpAnyH_take (i := 10) (oi := ⟨some 216, _, _, _, _, _⟩) (v := .tuple #[.agg cl, .bool okb]) rfl (by kernel_rfl) (by kernel_rfl) (by kernel_rfl) (fun _ _ _ h => hpan _ _ _ _ _ h) (Or.inl ⟨by rfl, fun w hSw => by go_simp⟩) (by assumption) ?_
        try simp only [Act.put, List.setIfInBounds_toArray, List.set_cons_zero, List.set_cons_succ]
        refine wpAnyH_take (i := 11) (oi := ⟨some 227, _, _, _, _, _⟩) (v := .agg cl) rfl (by kernel_rfl) (by kernel_rfl) (by kernel_rfl) (fun _ _ _ h => hpan _ _ _ _ _ h) (Or.inl ⟨by rfl, fun w hSw => by go_simp⟩) (by assumption) ?_
        try simp only [Act.put, List.setIfInBounds_toArray, List.set_cons_zero, List.set_cons_succ]
        refine wpAnyH_take (i := 12) (oi := ⟨some 228, _, _, _, _, _⟩) (v := .bool okb) rfl (by kernel_rfl) (by kernel_rfl) (by kernel_rfl) (fun _ _ _ h => hpan _ _ _ _ _ h) (Or.inl ⟨by rfl, fun w hSw => by go_simp⟩) (by assumption) ?_
        try simp only [Act.put, List.setIfInBounds_toArray, List.set_cons_zero, List.set_cons_succ]
        refine wpAnyH_ready (rs := [14]) (by kernel_rfl) (by simp) ?_
        refine AllReadyH.cons rfl (fun K hK => ?_) AllReadyH.nil
        refine step_store49 rfl (.tmp 27) (.tmp 227) rfl g rfl cl zRepA rfl HZ.out rfl HSz.out HAl.out ?_
        try go_simp
        refine hK.out _ _ (below_setRow hHeld HG.out _) (fun hHeld => ?_)
        clear hK K
        try simp only [Act.put, List.setIfInBounds_toArray, List.set_cons_zero, List.set_cons_succ]
        refine wpAnyH_take (i := 15) (oi := ⟨some 28, _, _, _, _, _⟩) (v := .bool okb) rfl (by kernel_rfl) (by kernel_rfl) (by kernel_rfl) (fun _ _ _ h => hpan _ _ _ _ _ h) (Or.inl ⟨by rfl, fun w hSw => by go_simp⟩) (by assumption) ?_
        try simp only [Act.put, List.setIfInBounds_toArray, List.set_cons_zero, List.set_cons_succ]
        refine wpAnyH_done (by kernel_rfl) ?_ _
        exact hQ g (heap_setRow _ _ _ _ _ HZ.out) hHeld
  · go_simp
    have hz := heap_alloc_new W6 (.cells zRepA 49)
    have hgl : W5.heap.size ≤ W6.heap.size := hHeld.size
    refine hK.out _ _ (hHeld.alloc hHeld.size (.cells zRepA 49)) (fun hHeld => ?_)
    clear hK K
    replace hHeld : Below W5.heap.size W5 (W6.alloc (.cells zRepA 49)) := hHeld
    change wpAnyH _ _ _ _ _ _ _ _ (W6.alloc (.cells zRepA 49))
    generalize W6.alloc (.cells zRepA 49) = Wa at hz hHeld ⊢
    generalize W6.heap.size = g at hz hgl ⊢
    have HZ : Hid (Wa.heap[g]? = some (.cells zRepA 49 (0, 0))) := hz
    have HG : Hid (W5.heap.size ≤ g) := hgl
    clear hz hgl
    refine wpAnyH_ready (rs := [5]) (by kernel_rfl) (by simp) ?_
    refine (AllReadyH.cons rfl (fun K hK => ?_) AllReadyH.nil)
    · go_simp
      refine (hsrc _).mono ?_
      rintro ex w4 ⟨rfl, hw4⟩
      rw [hw4]
      clear hw4 w4
      refine hK.out _ _ hHeld (fun hHeld => ?_)
      clear hK K
      try simp only [Act.put, List.setIfInBounds_toArray, List.set_cons_zero, List.set_cons_succ]
      refine wpAnyH_ready (rs := [7]) (by kernel_rfl) (by simp) ?_
      refine (AllReadyH.cons rfl (fun K hK => ?_) AllReadyH.nil)
      · go_simp
        refine (hprop _).mono ?_
        rintro ex w4 ⟨rfl, hw4⟩
        rw [hw4]
        clear hw4 w4
        refine hK.out _ _ hHeld (fun hHeld => ?_)
        clear hK K
        try simp only [Act.put, List.setIfInBounds_toArray, List.set_cons_zero, List.set_cons_succ]
        refine wpAnyH_take (i := 8) (oi := ⟨some 225, _, _, _, _, _⟩) (v := .agg #[.string (srcB a), .string (propB b)]) rfl (by kernel_rfl) (by kernel_rfl) (by kernel_rfl) (fun _ _ _ h => hpan _ _ _ _ _ h) (Or.inl ⟨by rfl, fun w hSw => by go_simp⟩) (by assumption) ?_
        try simp only [Act.put, List.setIfInBounds_toArray, List.set_cons_zero, List.set_cons_succ]
        refine wpAnyH_take (i := 9) (oi := ⟨some 226, _, _, _, _, _⟩) (v := .tuple #[.agg cl, .bool okb]) rfl (by kernel_rfl) (by kernel_rfl) (by kernel_rfl) (fun _ _ _ h => hpan _ _ _ _ _ h) (Or.inl ⟨by rfl, fun w hSw => by (have hlk := HLK.out w hSw); (unfold keyV at hlk); clear hSw; go_simp⟩) (by assumption) ?_
        try simp only [Act.put, List.setIfInBounds_toArray, List.set_cons_zero, List.set_cons_succ]
        refine wpAnyH_take (i := 10) (oi := ⟨some 216, _, _, _, _, _⟩) (v := .tuple #[.agg cl, .bool okb]) rfl (by kernel_rfl) (by kernel_rfl) (by kernel_rfl) (fun _ _ _ h => hpan _ _ _ _ _ h) (Or.inl ⟨by rfl, fun w hSw => by go_simp⟩) (by assumption) ?_
        try simp only [Act.put, List.setIfInBounds_toArray, List.set_cons_zero, List.set_cons_succ]
        refine wpAnyH_take (i := 11) (oi := ⟨some 227, _, _, _, _, _⟩) (v := .agg cl) rfl (by kernel_rfl) (by kernel_rfl) (by kernel_rfl) (fun _ _ _ h => hpan _ _ _ _ _ h) (Or.inl ⟨by rfl, fun w hSw => by go_simp⟩) (by assumption) ?_
        try simp only [Act.put, List.setIfInBounds_toArray, List.set_cons_zero, List.set_cons_succ]
        refine wpAnyH_take (i := 12) (oi := ⟨some 228, _, _, _, _, _⟩) (v := .bool okb) rfl (by kernel_rfl) (by kernel_rfl) (by kernel_rfl) (fun _ _ _ h => hpan _ _ _ _ _ h) (Or.inl ⟨by rfl, fun w hSw => by go_simp⟩) (by assumption) ?_
        try simp only [Act.put, List.setIfInBounds_toArray, List.set_cons_zero, List.set_cons_succ]
        refine wpAnyH_ready (rs := [14]) (by kernel_rfl) (by simp) ?_
        refine AllReadyH.cons rfl (fun K hK => ?_) AllReadyH.nil
        refine step_store49 rfl (.tmp 27) (.tmp 227) rfl g rfl cl zRepA rfl HZ.out rfl HSz.out HAl.out ?_
        try go_simp
        refine hK.out _ _ (below_setRow hHeld HG.out _) (fun hHeld => ?_)
        clear hK K
        try simp only [Act.put, List.setIfInBounds_toArray, List.set_cons_zero, List.set_cons_succ]
        refine wpAnyH_take (i := 15) (oi := ⟨some 28, _, _, _, _, _⟩) (v := .bool okb) rfl (by kernel_rfl) (by kernel_rfl) (by kernel_rfl) (fun _ _ _ h => hpan _ _ _ _ _ h) (Or.inl ⟨by rfl, fun w hSw => by go_simp⟩) (by assumption) ?_
        try simp only [Act.put, List.setIfInBounds_toArray, List.set_cons_zero, List.set_cons_succ]
        refine wpAnyH_done (by kernel_rfl) ?_ _
        exact hQ g (heap_setRow _ _ _ _ _ HZ.out) hHeld
end
end Go.Proofs.Ybulkbwfg
