/-
  The walk of 'zzs3634amodel' (function 7).
-/
import Derived.Test.YbulkbwfuEsc
namespace Go.Proofs.Ybulkbwfu
open Go.RowKit Go.Proofs

/-- What holds at the loop's head when j bytes are written. -/
def EscRel (w wr : World) (pre : List Value) (s : ByteArray) (j : Nat) (v : Value) : Prop := ∃ m, wr.ownsRow w.heap.size 5 1 v m (pre ++ escAll s j) ∧ Below w.heap.size w wr

set_option maxHeartbeats 1000000 in
theorem model_any (g0 n : Nat) (xs : List Value) (s : ByteArray) (w : World) (hn : n ≤ 4096) (hs : s.size ≤ 4096)
    (hx : xs.length = n) (hc : ∀ j u, xs[j]? = some u → w.cell? ⟨g0, j, none⟩ = some u) (hg : g0 < w.heap.size) :
    Calls Yba.prog 7 #[.slice (some ⟨g0, 0, none⟩) n n, .string s] w fun e w' => ∃ v' m, e = .returned v' ∧ w'.ownsRow w.heap.size 5 1 v' m (xs ++ cellsN [34] ++ escAll s s.size ++ cellsN [34]) ∧ Below w.heap.size w w' := by
  go_enter Yba.func7, Yba.ntmps7
  go_wp2_with (at_builtin; refine app_full _ rfl (.tmp 7) (.tmp 8) rfl g0 n xs rfl hx ?c1 [34] w.heap.size 1 rfl rfl (by decide) (heap_alloc_new _ _) (by omega) ?_)
  case c1 =>
    intro j u hj
    rw [World.cell?_alloc_old _ _ _ (by simp; omega)]
    exact hc j u hj
  intro v1 w1 hown1 hgrow1
  obtain ⟨pre, hpre⟩ : ∃ pre, pre = xs ++ cellsN [34] := ⟨_, rfl⟩
  rw [← hpre] at hown1
  have hpl : pre.length ≤ 4097 := by rw [hpre]; simp [cellsN]; omega
  have HP : Hid (pre = xs ++ cellsN [34]) := hpre
  clear hpre
  have hrel0 : EscRel w w1 pre s 0 v1 := ⟨n + 1, by rw [escAll_zero, List.append_nil]; exact ownsRow_base hown1 (by simp), ((Below.refl _ _).alloc (Nat.le_refl _) _).grown hgrow1 (by simp) (fun k hk => by cases hk)⟩
  clear hown1 hgrow1
  go_wp2_with fail
  go_loopg [0, 5] s.size (fun k v i wr => ∃ j : Nat, j ≤ s.size ∧ k = s.size - j ∧ i = .int .i64 j ∧ EscRel w wr pre s j v)
  case atStart => exact ⟨0, Nat.zero_le _, rfl, rfl, hrel0⟩
  case round =>
    clear hrel0
    obtain ⟨j, hj, rfl, rfl, m, hown, hB⟩ := hrel
    have hml := ownsRow_len hown
    rw [List.length_append] at hml
    have hel := escAll_length s j hj
    have hmb : m ≤ 40000 := by omega
    have hBs := hB.size
    clear hml hel
    by_cases hlt : j < s.size
    · have hcb : (s[j].toNat : Int) ≤ 255 := by have := s[j].toNat_lt; omega
      by_cases h34 : s[j].toNat = 34
      · have e1 : (34 : Int) ≤ (s[j].toNat : Int) := by omega
        have e2 : (s[j].toNat : Int) ≤ 34 := by omega
        have hesc : Hid (escN s[j].toNat = [92, 34]) := by unfold Hid; simp [escN, h34]
        clear h34
        go_wp2_with (at_builtin; refine app_own _ rfl (.tmp 21) (.tmp 22) rfl w.heap.size _ m _ rfl (hown.alloc _) [92, 34] wr.heap.size 2 rfl rfl (heap_alloc_new _ _) (by omega) (by simp; omega) ?_; intro v1 w1 hown1 hgrow1)
        go_roundg (s.size - (j + 1))
        case measure => omega
        case rel => exact ⟨j + 1, by omega, rfl, by go_num, esc_step hlt hesc.out hown (hB.alloc hBs _) (Nat.le_refl _) hown1 hgrow1⟩
      by_cases h92 : s[j].toNat = 92
      · have e1 : (92 : Int) ≤ (s[j].toNat : Int) := by omega
        have e2 : (s[j].toNat : Int) ≤ 92 := by omega
        have hesc : Hid (escN s[j].toNat = [92, 92]) := by unfold Hid; simp [escN, h92]
        clear h34 h92
        go_wp2_with (at_builtin; refine app_own _ rfl (.tmp 26) (.tmp 27) rfl w.heap.size _ m _ rfl (hown.alloc _) [92, 92] wr.heap.size 2 rfl rfl (heap_alloc_new _ _) (by omega) (by simp; omega) ?_; intro v1 w1 hown1 hgrow1)
        go_roundg (s.size - (j + 1))
        case measure => omega
        case rel => exact ⟨j + 1, by omega, rfl, by go_num, esc_step hlt hesc.out hown (hB.alloc hBs _) (Nat.le_refl _) hown1 hgrow1⟩
      by_cases h8 : s[j].toNat = 8
      · have e1 : (8 : Int) ≤ (s[j].toNat : Int) := by omega
        have e2 : (s[j].toNat : Int) ≤ 8 := by omega
        have hesc : Hid (escN s[j].toNat = [92, 98]) := by unfold Hid; simp [escN, h8]
        clear h34 h92 h8
        go_wp2_with (at_builtin; refine app_own _ rfl (.tmp 31) (.tmp 32) rfl w.heap.size _ m _ rfl (hown.alloc _) [92, 98] wr.heap.size 2 rfl rfl (heap_alloc_new _ _) (by omega) (by simp; omega) ?_; intro v1 w1 hown1 hgrow1)
        go_roundg (s.size - (j + 1))
        case measure => omega
        case rel => exact ⟨j + 1, by omega, rfl, by go_num, esc_step hlt hesc.out hown (hB.alloc hBs _) (Nat.le_refl _) hown1 hgrow1⟩
      by_cases h12 : s[j].toNat = 12
      · have e1 : (12 : Int) ≤ (s[j].toNat : Int) := by omega
        have e2 : (s[j].toNat : Int) ≤ 12 := by omega
        have hesc : Hid (escN s[j].toNat = [92, 102]) := by unfold Hid; simp [escN, h12]
        clear h34 h92 h8 h12
        go_wp2_with (at_builtin; refine app_own _ rfl (.tmp 36) (.tmp 37) rfl w.heap.size _ m _ rfl (hown.alloc _) [92, 102] wr.heap.size 2 rfl rfl (heap_alloc_new _ _) (by omega) (by simp; omega) ?_; intro v1 w1 hown1 hgrow1)
        go_roundg (s.size - (j + 1))
        case measure => omega
        case rel => exact ⟨j + 1, by omega, rfl, by go_num, esc_step hlt hesc.out hown (hB.alloc hBs _) (Nat.le_refl _) hown1 hgrow1⟩
      by_cases h10 : s[j].toNat = 10
      · have e1 : (10 : Int) ≤ (s[j].toNat : Int) := by omega
        have e2 : (s[j].toNat : Int) ≤ 10 := by omega
        have hesc : Hid (escN s[j].toNat = [92, 110]) := by unfold Hid; simp [escN, h10]
        clear h34 h92 h8 h12 h10
        go_wp2_with (at_builtin; refine app_own _ rfl (.tmp 41) (.tmp 42) rfl w.heap.size _ m _ rfl (hown.alloc _) [92, 110] wr.heap.size 2 rfl rfl (heap_alloc_new _ _) (by omega) (by simp; omega) ?_; intro v1 w1 hown1 hgrow1)
        go_roundg (s.size - (j + 1))
        case measure => omega
        case rel => exact ⟨j + 1, by omega, rfl, by go_num, esc_step hlt hesc.out hown (hB.alloc hBs _) (Nat.le_refl _) hown1 hgrow1⟩
      by_cases h13 : s[j].toNat = 13
      · have e1 : (13 : Int) ≤ (s[j].toNat : Int) := by omega
        have e2 : (s[j].toNat : Int) ≤ 13 := by omega
        have hesc : Hid (escN s[j].toNat = [92, 114]) := by unfold Hid; simp [escN, h13]
        clear h34 h92 h8 h12 h10 h13
        go_wp2_with (at_builtin; refine app_own _ rfl (.tmp 46) (.tmp 47) rfl w.heap.size _ m _ rfl (hown.alloc _) [92, 114] wr.heap.size 2 rfl rfl (heap_alloc_new _ _) (by omega) (by simp; omega) ?_; intro v1 w1 hown1 hgrow1)
        go_roundg (s.size - (j + 1))
        case measure => omega
        case rel => exact ⟨j + 1, by omega, rfl, by go_num, esc_step hlt hesc.out hown (hB.alloc hBs _) (Nat.le_refl _) hown1 hgrow1⟩
      by_cases h9 : s[j].toNat = 9
      · have e1 : (9 : Int) ≤ (s[j].toNat : Int) := by omega
        have e2 : (s[j].toNat : Int) ≤ 9 := by omega
        have hesc : Hid (escN s[j].toNat = [92, 116]) := by unfold Hid; simp [escN, h9]
        clear h34 h92 h8 h12 h10 h13 h9
        go_wp2_with (at_builtin; refine app_own _ rfl (.tmp 51) (.tmp 52) rfl w.heap.size _ m _ rfl (hown.alloc _) [92, 116] wr.heap.size 2 rfl rfl (heap_alloc_new _ _) (by omega) (by simp; omega) ?_; intro v1 w1 hown1 hgrow1)
        go_roundg (s.size - (j + 1))
        case measure => omega
        case rel => exact ⟨j + 1, by omega, rfl, by go_num, esc_step hlt hesc.out hown (hB.alloc hBs _) (Nat.le_refl _) hown1 hgrow1⟩
      by_cases h32 : s[j].toNat < 32
      · have e1 : (s[j].toNat : Int) < 32 := by omega
        have n34 : ((s[j].toNat : Int) == 34) = false := beq_eq_false_iff_ne.2 (by omega)
        have n92 : ((s[j].toNat : Int) == 92) = false := beq_eq_false_iff_ne.2 (by omega)
        have n8 : ((s[j].toNat : Int) == 8) = false := beq_eq_false_iff_ne.2 (by omega)
        have n12 : ((s[j].toNat : Int) == 12) = false := beq_eq_false_iff_ne.2 (by omega)
        have n10 : ((s[j].toNat : Int) == 10) = false := beq_eq_false_iff_ne.2 (by omega)
        have n13 : ((s[j].toNat : Int) == 13) = false := beq_eq_false_iff_ne.2 (by omega)
        have n9 : ((s[j].toNat : Int) == 9) = false := beq_eq_false_iff_ne.2 (by omega)
        have hesc : Hid (escN s[j].toNat = [92, 117, 48, 48, hexN (s[j].toNat / 16), hexN (s[j].toNat % 16)]) := by unfold Hid; simp [escN, h34, h92, h8, h12, h10, h13, h9, h32]
        clear h34 h92 h8 h12 h10 h13 h9
        have q0 : IntKind.u8.wrap ((s[j].toNat : Int) / 16) = (s[j].toNat : Int) / 16 := by rw [IntKind.wrap_u8]; omega
        have q1 : 0 ≤ (s[j].toNat : Int) / 16 := by omega
        have q2 : (s[j].toNat : Int) / 16 < 16 := by omega
        have q3 : 0 ≤ (s[j].toNat : Int).tmod 16 := by rw [Int.tmod_eq_emod_of_nonneg (by omega)]; omega
        have q4 : (s[j].toNat : Int).tmod 16 < 16 := by rw [Int.tmod_eq_emod_of_nonneg (by omega)]; omega
        have q5 := hex_at ((s[j].toNat : Int) / 16) (s[j].toNat / 16) (by omega) (by omega)
        have q6 := hex_at ((s[j].toNat : Int).tmod 16) (s[j].toNat % 16) (by rw [Int.tmod_eq_emod_of_nonneg (by omega)]; omega) (by omega)
        go_wp2_with fail
        go_region_law (refine step_own _ rfl (.tmp 56) (.tmp 63) rfl w.heap.size _ m _ rfl (hown.drew.alloc _) [92, 117, 48, 48, hexN (s[j].toNat / 16), hexN (s[j].toNat % 16)] wr.heap.size 6 rfl rfl (by decide) (heap_alloc_new _ _) (by omega) (by simp; omega) ?_; intro g1 cap1 w1 hown1 hgrow1)
        all_goals
          clear q0 q1 q2 q3 q4 q5 q6
          go_wp2
          go_roundg (s.size - (j + 1))
          case measure => omega
          case rel => exact ⟨j + 1, by omega, rfl, by go_num, esc_step hlt hesc.out hown (by first | exact hB.drew.alloc hBs _ | exact (hB.alloc hBs _).drew) (Nat.le_refl _) hown1 hgrow1⟩
      · have n34 : ((s[j].toNat : Int) == 34) = false := beq_eq_false_iff_ne.2 (by omega)
        have n92 : ((s[j].toNat : Int) == 92) = false := beq_eq_false_iff_ne.2 (by omega)
        have n8 : ((s[j].toNat : Int) == 8) = false := beq_eq_false_iff_ne.2 (by omega)
        have n12 : ((s[j].toNat : Int) == 12) = false := beq_eq_false_iff_ne.2 (by omega)
        have n10 : ((s[j].toNat : Int) == 10) = false := beq_eq_false_iff_ne.2 (by omega)
        have n13 : ((s[j].toNat : Int) == 13) = false := beq_eq_false_iff_ne.2 (by omega)
        have n9 : ((s[j].toNat : Int) == 9) = false := beq_eq_false_iff_ne.2 (by omega)
        have e1 : ¬ (s[j].toNat : Int) < 32 := by omega
        have hesc : Hid (escN s[j].toNat = [s[j].toNat]) := escN_plain ⟨by omega, h34, h92⟩
        clear h34 h92 h8 h12 h10 h13 h9
        go_wp2_with (at_builtin; refine app_own _ rfl (.tmp 65) (.tmp 67) rfl w.heap.size _ m _ rfl (hown.alloc _) [s[j].toNat] wr.heap.size 1 rfl rfl (heap_alloc_new _ _) (by omega) (by simp; omega) ?_; intro v1 w1 hown1 hgrow1)
        go_roundg (s.size - (j + 1))
        case measure => omega
        case rel => exact ⟨j + 1, by omega, rfl, by go_num, esc_step hlt hesc.out hown (hB.alloc hBs _) (Nat.le_refl _) hown1 hgrow1⟩
    · have hjs : j = s.size := by omega
      subst hjs
      go_wp2_with (at_builtin; refine app_own _ rfl (.tmp 69) (.tmp 70) rfl w.heap.size _ m _ rfl (hown.alloc _) [34] wr.heap.size 1 rfl rfl (heap_alloc_new _ _) (by omega) (by simp; omega) ?_; intro v1 w1 hown1 hgrow1)
      go_ret
      refine ⟨v1, m + 1, rfl, ?_, (hB.alloc hBs _).grown hgrow1 (by simp; omega) (fun k hk => (hown.lt k hk).1)⟩
      rw [← HP.out]
      exact hown1
end Go.Proofs.Ybulkbwfu
