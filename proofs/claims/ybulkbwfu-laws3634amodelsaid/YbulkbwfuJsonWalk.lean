/-
  The walk of 'appendJSONString' (function 6).
-/
import Derived.Test.YbulkbwfuEsc
namespace Go.Proofs.Ybulkbwfu
open Go.RowKit Go.Proofs

/-- What holds at the loop's head when the bytes below d are written and those from d to j stand for themselves. -/
def JsonRel (w wr : World) (pre : List Value) (s : ByteArray) (d j : Nat) (v : Value) : Prop :=
  (∃ m, wr.ownsRow w.heap.size 5 1 v m (pre ++ escAll s d) ∧ Below w.heap.size w wr) ∧ d ≤ j ∧ ∀ t, d ≤ t → t < j → ∀ h : t < s.size, plainN (s[t]'h).toNat

theorem json_next {w wr : World} {pre : List Value} {s : ByteArray} {j : Nat} {v : Value} (h : ∃ m', wr.ownsRow w.heap.size 5 1 v m' (pre ++ escAll s j) ∧ Below w.heap.size w wr) : JsonRel w wr pre s j j v :=
  ⟨h, Nat.le_refl _, fun t h1 h2 => absurd h1 (by omega)⟩

theorem and15 (n : Nat) (h : n < 32) : bits BinOp.and IntKind.u8 (n : Int) 15 = ((n % 16 : Nat) : Int) := by
  have key : ∀ k : Fin 32, bits BinOp.and IntKind.u8 (k.val : Int) 15 = ((k.val % 16 : Nat) : Int) := by decide
  exact key ⟨n, h⟩

set_option maxHeartbeats 2000000 in
theorem json_any (g0 n : Nat) (xs : List Value) (s : ByteArray) (w : World) (hn : n ≤ 4096) (hs : s.size ≤ 4096)
    (hx : xs.length = n) (hc : ∀ j u, xs[j]? = some u → w.cell? ⟨g0, j, none⟩ = some u) (hg : g0 < w.heap.size) :
    Calls Yba.prog 6 #[.slice (some ⟨g0, 0, none⟩) n n, .string s] w fun e w' => ∃ v' m, e = .returned v' ∧ w'.ownsRow w.heap.size 5 1 v' m (xs ++ cellsN [34] ++ escAll s s.size ++ cellsN [34]) ∧ Below w.heap.size w w' := by
  go_enter Yba.func6, Yba.ntmps6
  go_wp2_with (at_builtin; refine app_full _ rfl (.tmp 8) (.tmp 9) rfl g0 n xs rfl hx ?c1 [34] w.heap.size 1 rfl rfl (by decide) (heap_alloc_new _ _) (by omega) ?_)
  case c1 =>
    intro j u hj
    rw [World.cell?_alloc_old _ _ _ (by simp; omega)]
    exact hc j u hj
  intro v1 w1 hown1 hgrow1
  obtain ⟨pre, hpre⟩ : ∃ pre, pre = xs ++ cellsN [34] := ⟨_, rfl⟩
  rw [← hpre] at hown1
  have hpl : pre.length ≤ 4097 := by rw [hpre]; simp [cellsN]; omega
  have HP : Hid (pre = xs ++ cellsN [34]) := hpre
  clear hpre
  have hrel0 : JsonRel w w1 pre s 0 0 v1 := json_next ⟨n + 1, by rw [escAll_zero, List.append_nil]; exact ownsRow_base hown1 (by simp), ((Below.refl _ _).alloc (Nat.le_refl _) _).grown hgrow1 (by simp) (fun k hk => by cases hk)⟩
  clear hown1 hgrow1
  go_wp2_with fail
  go_loopg [0, 5, 6] s.size (fun k v d i wr => ∃ e j : Nat, j ≤ s.size ∧ k = s.size - j ∧ d = .int .i64 e ∧ i = .int .i64 j ∧ JsonRel w wr pre s e j v)
  case atStart => exact ⟨0, 0, Nat.zero_le _, rfl, rfl, rfl, hrel0⟩
  case round =>
    clear hrel0
    obtain ⟨d, j, hj, rfl, rfl, rfl, ⟨m, hown, hB⟩, hdj, hp⟩ := hrel
    have hml := ownsRow_len hown
    rw [List.length_append] at hml
    have hel := escAll_length s d (by omega)
    have hmb : m ≤ 40000 := by omega
    have hBs := hB.size
    clear hml hel
    have hez : (s.extract d j).size ≤ 4096 := by simp; omega
    by_cases hlt : j < s.size
    · have hcb : (s[j].toNat : Int) ≤ 255 := by have := s[j].toNat_lt; omega
      by_cases hpn : plainN s[j].toNat
      · have p1 : (32 : Int) ≤ (s[j].toNat : Int) := by have := hpn.1; omega
        have p2 : ((s[j].toNat : Int) != 34) = true := by rw [bne_iff_ne]; have := hpn.2.1; omega
        have p3 : ((s[j].toNat : Int) != 92) = true := by rw [bne_iff_ne]; have := hpn.2.2; omega
        have HN : Hid (plainN s[j].toNat) := hpn
        have HQ : Hid (∀ t, d ≤ t → t < j → ∀ h : t < s.size, plainN (s[t]'h).toNat) := hp
        clear hpn hp
        go_wp2_with fail
        go_roundg (s.size - (j + 1))
        case measure => omega
        case rel => exact ⟨d, j + 1, by omega, rfl, rfl, by go_num, ⟨m, hown, hB⟩, by omega, fun t h1 h2 h3 => by
          by_cases e : t = j
          · subst e; exact HN.out
          · exact HQ.out t h1 (by omega) h3⟩
      · have HQ : Hid (∀ t, d ≤ t → (ht : t < j) → plainN (s[t]'(by omega)).toNat) := fun t h1 h2 => hp t h1 h2 (by omega)
        clear hp
        have hpc : s[j].toNat < 32 ∨ s[j].toNat = 34 ∨ s[j].toNat = 92 := by unfold plainN at hpn; omega
        clear hpn
        by_cases h34 : s[j].toNat = 34
        · have e1 : (34 : Int) ≤ (s[j].toNat : Int) := by omega
          have e2 : (s[j].toNat : Int) ≤ 34 := by omega
          have e3 : ((s[j].toNat : Int) != 34) = false := by rw [bne_eq_false_iff_eq]; omega
          have e4 : ((s[j].toNat : Int) == 34) = true := by rw [beq_iff_eq]; omega
          have hesc : Hid (escN s[j].toNat = [92, s[j].toNat]) := by unfold Hid; simp [escN, h34]
          clear hpc h34
          go_wp2_with (first | (at_builtin; refine app_str _ rfl (.tmp 30) (.tmp 34) rfl w.heap.size _ m _ rfl hown (s.extract d j) rfl (by omega) hBs ?_; intro v1 w1 hown1 hgrow1; obtain ⟨m2, hown2, hB2, hm2, hBs2⟩ := esc_mid hj hdj HQ.out hown hB (Nat.le_refl _) hpl hs hown1 hgrow1; clear hown1 hgrow1) | (at_builtin; refine app_own _ rfl (.tmp 49) (.tmp 51) rfl w.heap.size _ m2 _ rfl (hown2.alloc _) [92, s[j].toNat] w1.heap.size 2 rfl rfl (heap_alloc_new _ _) (by omega) (by simp; omega) ?_; intro v3 w3 hown3 hgrow3))
          go_roundg (s.size - (j + 1))
          case measure => omega
          case rel => exact ⟨j + 1, j + 1, by omega, rfl, by go_num, by go_num, json_next (esc_step hlt hesc.out hown2 (hB2.alloc hBs2 _) (Nat.le_refl _) hown3 hgrow3)⟩
        by_cases h92 : s[j].toNat = 92
        · have e1 : (92 : Int) ≤ (s[j].toNat : Int) := by omega
          have e2 : (s[j].toNat : Int) ≤ 92 := by omega
          have e3 : ((s[j].toNat : Int) != 34) = true := by rw [bne_iff_ne]; omega
          have e4 : ((s[j].toNat : Int) != 92) = false := by rw [bne_eq_false_iff_eq]; omega
          have e5 : ((s[j].toNat : Int) == 34) = false := beq_eq_false_iff_ne.2 (by omega)
          have e6 : ((s[j].toNat : Int) == 92) = true := by rw [beq_iff_eq]; omega
          have hesc : Hid (escN s[j].toNat = [92, s[j].toNat]) := by unfold Hid; simp [escN, h92]
          clear hpc h34 h92
          go_wp2_with (first | (at_builtin; refine app_str _ rfl (.tmp 30) (.tmp 34) rfl w.heap.size _ m _ rfl hown (s.extract d j) rfl (by omega) hBs ?_; intro v1 w1 hown1 hgrow1; obtain ⟨m2, hown2, hB2, hm2, hBs2⟩ := esc_mid hj hdj HQ.out hown hB (Nat.le_refl _) hpl hs hown1 hgrow1; clear hown1 hgrow1) | (at_builtin; refine app_own _ rfl (.tmp 49) (.tmp 51) rfl w.heap.size _ m2 _ rfl (hown2.alloc _) [92, s[j].toNat] w1.heap.size 2 rfl rfl (heap_alloc_new _ _) (by omega) (by simp; omega) ?_; intro v3 w3 hown3 hgrow3))
          go_roundg (s.size - (j + 1))
          case measure => omega
          case rel => exact ⟨j + 1, j + 1, by omega, rfl, by go_num, by go_num, json_next (esc_step hlt hesc.out hown2 (hB2.alloc hBs2 _) (Nat.le_refl _) hown3 hgrow3)⟩
        by_cases h8 : s[j].toNat = 8
        · have e1 : (8 : Int) ≤ (s[j].toNat : Int) := by omega
          have e2 : (s[j].toNat : Int) ≤ 8 := by omega
          have hesc : Hid (escN s[j].toNat = [92, 98]) := by unfold Hid; simp [escN, h8]
          clear hpc h34 h92 h8
          go_wp2_with (first | (at_builtin; refine app_str _ rfl (.tmp 30) (.tmp 34) rfl w.heap.size _ m _ rfl hown (s.extract d j) rfl (by omega) hBs ?_; intro v1 w1 hown1 hgrow1; obtain ⟨m2, hown2, hB2, hm2, hBs2⟩ := esc_mid hj hdj HQ.out hown hB (Nat.le_refl _) hpl hs hown1 hgrow1; clear hown1 hgrow1) | (at_builtin; refine app_const _ rfl (.tmp 55) (.const (.string { data := #[92, 98] })) rfl w.heap.size _ m2 _ rfl hown2 { data := #[92, 98] } rfl [92, 98] rfl (by simp; omega) hBs2 ?_; intro v3 w3 hown3 hgrow3))
          go_roundg (s.size - (j + 1))
          case measure => omega
          case rel => exact ⟨j + 1, j + 1, by omega, rfl, by go_num, by go_num, json_next (esc_step hlt hesc.out hown2 hB2 (Nat.le_refl _) hown3 hgrow3)⟩
        by_cases h12 : s[j].toNat = 12
        · have e1 : (12 : Int) ≤ (s[j].toNat : Int) := by omega
          have e2 : (s[j].toNat : Int) ≤ 12 := by omega
          have hesc : Hid (escN s[j].toNat = [92, 102]) := by unfold Hid; simp [escN, h12]
          clear hpc h34 h92 h8 h12
          go_wp2_with (first | (at_builtin; refine app_str _ rfl (.tmp 30) (.tmp 34) rfl w.heap.size _ m _ rfl hown (s.extract d j) rfl (by omega) hBs ?_; intro v1 w1 hown1 hgrow1; obtain ⟨m2, hown2, hB2, hm2, hBs2⟩ := esc_mid hj hdj HQ.out hown hB (Nat.le_refl _) hpl hs hown1 hgrow1; clear hown1 hgrow1) | (at_builtin; refine app_const _ rfl (.tmp 59) (.const (.string { data := #[92, 102] })) rfl w.heap.size _ m2 _ rfl hown2 { data := #[92, 102] } rfl [92, 102] rfl (by simp; omega) hBs2 ?_; intro v3 w3 hown3 hgrow3))
          go_roundg (s.size - (j + 1))
          case measure => omega
          case rel => exact ⟨j + 1, j + 1, by omega, rfl, by go_num, by go_num, json_next (esc_step hlt hesc.out hown2 hB2 (Nat.le_refl _) hown3 hgrow3)⟩
        by_cases h10 : s[j].toNat = 10
        · have e1 : (10 : Int) ≤ (s[j].toNat : Int) := by omega
          have e2 : (s[j].toNat : Int) ≤ 10 := by omega
          have hesc : Hid (escN s[j].toNat = [92, 110]) := by unfold Hid; simp [escN, h10]
          clear hpc h34 h92 h8 h12 h10
          go_wp2_with (first | (at_builtin; refine app_str _ rfl (.tmp 30) (.tmp 34) rfl w.heap.size _ m _ rfl hown (s.extract d j) rfl (by omega) hBs ?_; intro v1 w1 hown1 hgrow1; obtain ⟨m2, hown2, hB2, hm2, hBs2⟩ := esc_mid hj hdj HQ.out hown hB (Nat.le_refl _) hpl hs hown1 hgrow1; clear hown1 hgrow1) | (at_builtin; refine app_const _ rfl (.tmp 63) (.const (.string { data := #[92, 110] })) rfl w.heap.size _ m2 _ rfl hown2 { data := #[92, 110] } rfl [92, 110] rfl (by simp; omega) hBs2 ?_; intro v3 w3 hown3 hgrow3))
          go_roundg (s.size - (j + 1))
          case measure => omega
          case rel => exact ⟨j + 1, j + 1, by omega, rfl, by go_num, by go_num, json_next (esc_step hlt hesc.out hown2 hB2 (Nat.le_refl _) hown3 hgrow3)⟩
        by_cases h13 : s[j].toNat = 13
        · have e1 : (13 : Int) ≤ (s[j].toNat : Int) := by omega
          have e2 : (s[j].toNat : Int) ≤ 13 := by omega
          have hesc : Hid (escN s[j].toNat = [92, 114]) := by unfold Hid; simp [escN, h13]
          clear hpc h34 h92 h8 h12 h10 h13
          go_wp2_with (first | (at_builtin; refine app_str _ rfl (.tmp 30) (.tmp 34) rfl w.heap.size _ m _ rfl hown (s.extract d j) rfl (by omega) hBs ?_; intro v1 w1 hown1 hgrow1; obtain ⟨m2, hown2, hB2, hm2, hBs2⟩ := esc_mid hj hdj HQ.out hown hB (Nat.le_refl _) hpl hs hown1 hgrow1; clear hown1 hgrow1) | (at_builtin; refine app_const _ rfl (.tmp 67) (.const (.string { data := #[92, 114] })) rfl w.heap.size _ m2 _ rfl hown2 { data := #[92, 114] } rfl [92, 114] rfl (by simp; omega) hBs2 ?_; intro v3 w3 hown3 hgrow3))
          go_roundg (s.size - (j + 1))
          case measure => omega
          case rel => exact ⟨j + 1, j + 1, by omega, rfl, by go_num, by go_num, json_next (esc_step hlt hesc.out hown2 hB2 (Nat.le_refl _) hown3 hgrow3)⟩
        by_cases h9 : s[j].toNat = 9
        · have e1 : (9 : Int) ≤ (s[j].toNat : Int) := by omega
          have e2 : (s[j].toNat : Int) ≤ 9 := by omega
          have hesc : Hid (escN s[j].toNat = [92, 116]) := by unfold Hid; simp [escN, h9]
          clear hpc h34 h92 h8 h12 h10 h13 h9
          go_wp2_with (first | (at_builtin; refine app_str _ rfl (.tmp 30) (.tmp 34) rfl w.heap.size _ m _ rfl hown (s.extract d j) rfl (by omega) hBs ?_; intro v1 w1 hown1 hgrow1; obtain ⟨m2, hown2, hB2, hm2, hBs2⟩ := esc_mid hj hdj HQ.out hown hB (Nat.le_refl _) hpl hs hown1 hgrow1; clear hown1 hgrow1) | (at_builtin; refine app_const _ rfl (.tmp 71) (.const (.string { data := #[92, 116] })) rfl w.heap.size _ m2 _ rfl hown2 { data := #[92, 116] } rfl [92, 116] rfl (by simp; omega) hBs2 ?_; intro v3 w3 hown3 hgrow3))
          go_roundg (s.size - (j + 1))
          case measure => omega
          case rel => exact ⟨j + 1, j + 1, by omega, rfl, by go_num, by go_num, json_next (esc_step hlt hesc.out hown2 hB2 (Nat.le_refl _) hown3 hgrow3)⟩
        have e1 : (s[j].toNat : Int) < 32 := by omega
        have n34 : ((s[j].toNat : Int) == 34) = false := beq_eq_false_iff_ne.2 (by omega)
        have n92 : ((s[j].toNat : Int) == 92) = false := beq_eq_false_iff_ne.2 (by omega)
        have n8 : ((s[j].toNat : Int) == 8) = false := beq_eq_false_iff_ne.2 (by omega)
        have n12 : ((s[j].toNat : Int) == 12) = false := beq_eq_false_iff_ne.2 (by omega)
        have n10 : ((s[j].toNat : Int) == 10) = false := beq_eq_false_iff_ne.2 (by omega)
        have n13 : ((s[j].toNat : Int) == 13) = false := beq_eq_false_iff_ne.2 (by omega)
        have n9 : ((s[j].toNat : Int) == 9) = false := beq_eq_false_iff_ne.2 (by omega)
        have hesc : Hid (escN s[j].toNat = [92, 117, 48, 48, hexN (s[j].toNat / 16), hexN (s[j].toNat % 16)]) := by unfold Hid; simp [escN, h34, h92, h8, h12, h10, h13, h9, show s[j].toNat < 32 by omega]
        clear hpc h34 h92 h8 h12 h10 h13 h9
        go_wp2_with (first | (at_builtin; refine app_str _ rfl (.tmp 30) (.tmp 34) rfl w.heap.size _ m _ rfl hown (s.extract d j) rfl (by omega) hBs ?_; intro v1 w1 hown1 hgrow1; obtain ⟨m2, hown2, hB2, hm2, hBs2⟩ := esc_mid hj hdj HQ.out hown hB (Nat.le_refl _) hpl hs hown1 hgrow1; clear hown1 hgrow1))
        have q1 : 0 ≤ (s[j].toNat : Int) / 16 := by omega
        have q2 : (s[j].toNat : Int) / 16 < 16 := by omega
        have qa : bits BinOp.and IntKind.u8 (s[j].toNat : Int) 15 = (s[j].toNat : Int) % 16 := by rw [and15 _ (by omega)]; omega
        have q3 : 0 ≤ (s[j].toNat : Int) % 16 := by omega
        have q4 : (s[j].toNat : Int) % 16 < 16 := by omega
        have q5 := hex_at ((s[j].toNat : Int) / 16) (s[j].toNat / 16) (by omega) (by omega)
        have q6 := hex_at ((s[j].toNat : Int) % 16) (s[j].toNat % 16) (by omega) (by omega)
        go_region_law (refine step_own _ rfl (.tmp 37) (.tmp 44) rfl w.heap.size _ m2 _ rfl (hown2.drew.alloc _) [92, 117, 48, 48, hexN (s[j].toNat / 16), hexN (s[j].toNat % 16)] w1.heap.size 6 rfl rfl (by decide) (heap_alloc_new _ _) (by omega) (by simp; omega) ?_; intro g1 cap1 w3 hown3 hgrow3)
        all_goals
          clear q1 q2 qa q3 q4 q5 q6
          go_wp2
          go_roundg (s.size - (j + 1))
          case measure => omega
          case rel => exact ⟨j + 1, j + 1, by omega, rfl, by go_num, by go_num, json_next (esc_step hlt hesc.out hown2 (by first | exact hB2.drew.alloc hBs2 _ | exact (hB2.alloc hBs2 _).drew) (Nat.le_refl _) hown3 hgrow3)⟩
    · have hjs : j = s.size := by omega
      subst hjs
      have HQ : Hid (∀ t, d ≤ t → (ht : t < s.size) → plainN (s[t]'(by omega)).toNat) := fun t h1 h2 => hp t h1 h2 (by omega)
      clear hp
      go_wp2_with (first | (at_builtin; refine app_str _ rfl (.tmp 75) (.tmp 78) rfl w.heap.size _ m _ rfl hown (s.extract d s.size) rfl (by omega) hBs ?_; intro v1 w1 hown1 hgrow1; obtain ⟨m2, hown2, hB2, hm2, hBs2⟩ := esc_mid (Nat.le_refl _) hdj HQ.out hown hB (Nat.le_refl _) hpl hs hown1 hgrow1; clear hown1 hgrow1) | (at_builtin; refine app_own _ rfl (.tmp 80) (.tmp 81) rfl w.heap.size _ m2 _ rfl (hown2.alloc _) [34] w1.heap.size 1 rfl rfl (heap_alloc_new _ _) (by omega) (by simp; omega) ?_; intro v3 w3 hown3 hgrow3))
      go_ret
      refine ⟨v3, m2 + 1, rfl, ?_, (hB2.alloc hBs2 _).grown hgrow3 (by simp; omega) (fun k hk => (hown2.lt k hk).1)⟩
      rw [← HP.out]
      exact hown3
end Go.Proofs.Ybulkbwfu
