/-
  'LawS3634BGrow' (function 4): what follows 'Grow', as a law on that part of her text.
-/
import Derived.Test.YbulkbwfuGrowAfter
namespace Go.Proofs.Ybulkbwfu
open Go.RowKit Go.Proofs

theorem heap_drewN (w : World) (k : Nat) : (w.drewN k).heap = w.heap := (drewN_parts w k).1

theorem drewN_below {w w' : World} {B : Nat} (h : Below B w w') (q : Nat) : Below B w (w'.drewN q) := by
  obtain ⟨e1, e2, e3, e4⟩ := drewN_parts w' q
  exact ⟨e2.trans h.os, e3.trans h.tape, e4.trans h.output, by rw [e1]; exact h.size, fun k hk => by rw [e1]; exact h.block k hk⟩

/-- The second part of a sequence. -/
def seqR : Code → Code
  | .seq _ b => b
  | c => c
/-- Her text. -/
noncomputable def text4 : Code := match Yba.f4.body with
  | some c => c
  | none => .skip
/-- Her text behind 'got := Grow(..)'. -/
noncomputable def code10 : Code := seqR (seqR (seqR (seqR (seqR (seqR (seqR (seqR text4)))))))

set_option maxHeartbeats 1000000 in
set_option maxRecDepth 100000 in
theorem grow_loop {u2 u3 u4 u5 u6 u7 u8 u14 u15 u16 u17 u18 u19 u20 u21 u22 u23 u24 u25 u26 u27 u28 u29 u30 u31 u32 u33 u34 u35 u36 u37 u38 u39 u40 u41 u42 u43 u44 u45 u46 u47 u48 u49 u50 u51 u52 u53 u54 u55 u56 u57 u58 u59 u60 u61 u62 u63 u64 u65 u66 u67 u68 u69 u70 u71 u72 u73 u74 u75 u76 u77 u78 u79 u80 u81 u82 u83 u84 u85 u86 u87 u88 u89 u90 u91 u92 u93 u94 u95 u96 u97 u98 u99 u100 u101 u102 u103 u104 u105 u106 u107 u108 u109 u110 u111 u112 u113 u114 u115 u116 u117 u118 u119 u120 u121 u122 u123 u124 u125 u126 u127 u128 u129 u130 u131 u132 u133 u134 u135 u136 u137 u138 u139 u140 u141 u142 u143 u144 u145 u146 u147 u148 u149 u150 u151 u152 u153 u154 u155 u156 u157 u158 u159 u160 u161 u162 u163 u164 u165 u166 u167 u168 u169 u170 u171 u172 u173 u174 u175 u176 u177 u178 u179 u180 u181 u182 u183 u184 u185 u186 u187 u188 u189 : Value} {w w1 wc : World} {an : Option Addr} {n nc nb no : Nat} {N : Nat → ByteArray} {asp : Option Addr} {m mc mb mo : Nat} {S : Nat → ByteArray} {e G : Nat} (hn : n ≤ 1024) (hm : m ≤ 1024) (he : e ≤ 7)
    (han : 0 < n → an = some ⟨nb, no, none⟩) (HN : Hid (∀ i, i < n → w.cell? ⟨nb, no + i, none⟩ = some (.string (N i)))) (has : 0 < m → asp = some ⟨mb, mo, none⟩) (HS : Hid (∀ i, i < m → w.cell? ⟨mb, mo + i, none⟩ = some (.string (S i))))
    (hb : Built w w1 w.heap.size (n + e) (n + e) (nameAt n N m S) (byteAt n)) (hA : After w1 wc w.heap.size G n e) :
    Code.wp Yba.prog code10 (bodyPost Yba.prog Yba.f4 fun ex w' => ex = .returned (.bool true) ∧ Below w.heap.size w w') ⟨#[.slice an n nc, .slice asp m mc, u2, u3, u4, u5, u6, u7, u8, .int .i64 (n : Int), .int .i64 (e : Int), .slice (some ⟨w.heap.size, 0, none⟩) (n + e) (n + e), .pointer (some ⟨w1.heap.size, 0, none⟩), .pointer (some ⟨G, n * 3, none⟩), u14, u15, u16, u17, u18, u19, u20, u21, u22, u23, u24, u25, u26, u27, u28, u29, u30, u31, u32, u33, u34, u35, u36, u37, u38, u39, u40, u41, u42, u43, u44, u45, u46, u47, u48, u49, u50, u51, u52, u53, u54, u55, u56, u57, u58, u59, u60, u61, u62, u63, u64, u65, u66, u67, u68, u69, u70, u71, u72, u73, u74, u75, u76, u77, u78, u79, u80, u81, u82, u83, u84, u85, u86, u87, u88, u89, u90, u91, u92, u93, u94, u95, u96, u97, u98, u99, u100, u101, u102, u103, u104, u105, u106, u107, u108, u109, u110, u111, u112, u113, u114, u115, u116, u117, u118, u119, u120, u121, u122, u123, u124, u125, u126, u127, u128, u129, u130, u131, u132, u133, u134, u135, u136, u137, u138, u139, u140, u141, u142, u143, u144, u145, u146, u147, u148, u149, u150, u151, u152, u153, u154, u155, u156, u157, u158, u159, u160, u161, u162, u163, u164, u165, u166, u167, u168, u169, u170, u171, u172, u173, u174, u175, u176, u177, u178, u179, u180, u181, u182, u183, u184, u185, u186, u187, u188, u189], []⟩ wc := by
  conv => arg 2; whnf
  obtain ⟨cap, hslot⟩ := hA.slot
  have hl1 : (n : Int) < (n : Int) + 1 := by omega
  have hpp := neq_ptr ⟨G, n * 3, none⟩
  go_wp2_with fail
  go_loopg [14] n (fun k i wr => ∃ j q : Nat, j ≤ n ∧ k = n - j ∧ i = .int .i64 j ∧ wr = wc.drewN q)
  case atStart => exact ⟨0, 0, Nat.zero_le _, rfl, rfl, rfl⟩
  case round =>
    obtain ⟨j, q, hj, rfl, rfl, rfl⟩ := hrel
    by_cases hlt : j < n
    · obtain ⟨nb1, nc1, vb1, vc1, g0, g1, g2, f0, f1, hby, hv⟩ := hA.two hb (by omega) j hlt
      obtain rfl := han (by omega)
      have hBw : Below w.heap.size w wc := hb.below.trans (hA.below.mono hb.below.size)
      have cN : wc.cell? ⟨nb, no + j, none⟩ = some (.string (N j)) := cell_later hBw (HN.out j hlt)
      rw [← nameAt_lt hlt] at g0 f0 hby
      rw [← byteAt_lt hlt] at hv
      have hcv := name_back (nc := nc1) hby
      have hne := neq_nil
      have b1 : (j : Int) < (n : Int) := by omega
      have b2 : (j : Int) < (n : Int) + 1 := by omega
      have b3 : (j : Int) < (n : Int) + (e : Int) := by omega
      clear hby hpp
      go_wp2_with fail
      go_quiet (fail)
      go_wp2_with fail
      go_quiet (fail)
      go_wp2_with fail
      go_roundg (n - (j + 1))
      case measure => omega
      case rel => exact ⟨j + 1, _, by omega, rfl, by go_num, rfl⟩
    · have hjn : j = n := by omega
      subst hjn
      have hBw : Below w.heap.size w wc := hb.below.trans (hA.below.mono hb.below.size)
      by_cases h0 : 0 < e
      · obtain rfl := hA.room h0
        obtain ⟨nb1, nc1, vb1, vc1, f0, f1, f2, hby, hv⟩ := hA.spare hb (by omega)
        have en : nameAt j N m S j = spareAt m S 0 := by unfold nameAt; rw [if_neg (by omega), Nat.sub_self]
        have eb : byteAt j j = 238 := by unfold byteAt; rw [if_neg (by omega)]
        rw [en] at f0 hby
        rw [eb] at hv
        have hcv := name_back (nc := nc1) hby
        have hne := neq_nil
        have b1 : (0 : Int) < (e : Int) := by omega
        have b3 : (j : Int) < (j : Int) + (e : Int) := by omega
        have hcS : ∀ W : World, W.heap = wc.heap → ∀ i, i < m → W.cell? ⟨mb, mo + i, none⟩ = some (.string (S i)) := fun W hW i hi => by
          have := cell_later hBw (HS.out i hi)
          simpa only [World.cell?, hW] using this
        have hcl : ∀ W : World, W.heap = wc.heap → Calls Yba.prog 11 #[.slice asp m mc, .int .i64 0] W fun ex w' => ex = .returned (.string (spareAt m S 0)) ∧ w' = W := fun W hW => spare_any asp m mc mb mo S W hm has (hcS W hW)
        generalize spareAt m S 0 = sp at f0 hcv hcl
        have HSP : Hid (∀ W : World, W.heap = wc.heap → Calls Yba.prog 11 #[.slice asp m mc, .int .i64 0] W fun ex w' => ex = .returned (.string sp) ∧ w' = W) := hcl
        clear hby en eb hcS hcl
        go_wp2_with fail
        go_quiet ((go_at_call 11; exact (HSP.out _ (by simp only [heap_drewN])).mono (fun e w'' h => ⟨h.1, _, h.2⟩)))
        go_wp2_with fail
        go_ret
        exact ⟨rfl, drewN_below (drewN_below hBw _) _⟩
      · obtain rfl : e = 0 := by omega
        have n0 := hA.fresh rfl 0 (by omega)
        have n1 := hA.fresh rfl 1 (by omega)
        have n2 := hA.fresh rfl 2 (by omega)
        rw [Nat.add_zero] at n0
        have hq1 := eql_nil22
        have hq2 := eql_nil28
        go_wp2_with fail
        go_ret
        exact ⟨rfl, drewN_below hBw _⟩
end Go.Proofs.Ybulkbwfu
