/-
  'placement.Rule.bounds' (function 14) at its two rules, 'quorumCap' (18), and the walks of the two laws over them (functions 4 and 5).
-/
import Derived.Test.YbulkbwfgProg
import Derived.WalkKit
import Derived.WalkSpells
import Derived.WalkLawsBesides
import Derived.Deep.QuietTactic
import Derived.BigQuiet
namespace Go.Proofs.Ybulkbwfg
open Go.RowKit Go.Proofs

/-! ### The plain facts -/
theorem div_facts (k n : Int) (hn : 1 ≤ n) (hk : 0 ≤ k) : 0 ≤ k / n ∧ k / n * n ≤ k ∧ k - k / n * n < n := by
  have h1 := Int.mul_ediv_add_emod k n
  have h2 := Int.emod_nonneg k (show n ≠ 0 by omega)
  have h3 := Int.emod_lt_of_pos k (show 0 < n by omega)
  have h4 := Int.ediv_nonneg hk (show 0 ≤ n by omega)
  rw [Int.mul_comm] at h1
  omega

/-- The ceiling share, out of the floor share. -/
theorem ceil_facts (t n : Int) (hn : 1 ≤ n) (ht : 0 ≤ t) : (t + n - 1) / n = if t / n * n < t then t / n + 1 else t / n := by
  have h := div_facts t n hn ht
  generalize t / n = s at h ⊢
  obtain ⟨h0, h1, h2⟩ := h
  split
  · have e : t + n - 1 = (t - s * n - 1) + (s + 1) * n := by rw [Int.add_mul]; omega
    rw [e, Int.add_mul_ediv_right _ _ (by omega), Int.ediv_eq_zero_of_lt (by omega) (by omega)]
    omega
  · have e : t + n - 1 = (n - 1) + s * n := by omega
    rw [e, Int.add_mul_ediv_right _ _ (by omega), Int.ediv_eq_zero_of_lt (by omega) (by omega)]
    omega

/-! ### The contracts -/
set_option maxHeartbeats 400000 in
theorem bounds_max (k t n : Int) (hn : 1 ≤ n) (hn2 : n ≤ 1048576) (hk : 0 ≤ k) (hk2 : k ≤ 1099511627776) (w : World) :
    Calls Yba.prog 14 #[.string { data := #[109, 97, 120, 105, 109, 117, 109, 45, 100, 105, 102, 102, 101, 114, 101, 110, 99, 101] }, .int .i64 k, .int .i64 t, .int .i64 n] w
      fun e w' => (e = .returned (.tuple #[.int .i64 (k / n), .int .i64 ((k + n - 1) / n)])) ∧ Below w.heap.size w w' := by
  go_enter Yba.func14, Yba.ntmps14
  go_wp2
  go_region
  all_goals go_wp2
  all_goals go_ret2
  all_goals exact ⟨rfl, (Below.refl _ _).drew⟩

set_option maxHeartbeats 400000 in
theorem cap_any (t n : Int) (hn : 1 ≤ n) (hn2 : n ≤ 1048576) (ht : 0 ≤ t) (ht2 : t ≤ 1099511627776) (w : World) :
    Calls Yba.prog 18 #[.int .i64 t, .int .i64 n] w
      fun e w' => (e = .returned (.int .i64 (max (t - (t / 2 + 1)) ((t + n - 1) / n)))) ∧ w' = w := by
  have hq := div_facts (t + n - 1) n hn (by omega)
  have hb : (t + n - 1) / n ≤ t + n - 1 := Int.ediv_le_self _ (by omega)
  by_cases hc : t - (t / 2 + 1) < (t + n - 1) / n
  · rw [Int.max_eq_right (by omega)]
    go_enter Yba.func18, Yba.ntmps18
    go_wp2
    go_ret
    exact ⟨rfl, rfl⟩
  · rw [Int.max_eq_left (by omega)]
    go_enter Yba.func18, Yba.ntmps18
    go_wp2
    go_ret
    exact ⟨rfl, rfl⟩

set_option maxHeartbeats 400000 in
theorem bounds_quorum (k t n : Int) (hn : 1 ≤ n) (hn2 : n ≤ 1048576) (ht : 0 ≤ t) (ht2 : t ≤ 1099511627776) (w : World) :
    Calls Yba.prog 14 #[.string { data := #[113, 117, 111, 114, 117, 109, 45, 115, 97, 102, 101] }, .int .i64 k, .int .i64 t, .int .i64 n] w
      fun e w' => (e = .returned (.tuple #[.int .i64 0, .int .i64 (max (t - (t / 2 + 1)) ((t + n - 1) / n))])) ∧ w' = w := by
  go_enter Yba.func14, Yba.ntmps14
  go_wp2_with (go_at_call 18; refine (cap_any t n hn hn2 ht ht2 _).mono ?_; rintro e w' ⟨rfl, rfl⟩)
  go_ret2
  exact ⟨rfl, rfl⟩

/-! ### The laws -/
theorem ret_true {a b : Int} (h : a = b) : Ending.returned (.bool (a == b)) = .returned (.bool true) := by rw [h]; simp

set_option maxHeartbeats 800000 in
theorem maxdiff_walk (k t n : Int) (w : World) :
    Calls Yba.prog 4 #[.int .i64 k, .int .i64 t, .int .i64 n] w fun e w' => e = .returned (.bool true) ∧ Below w.heap.size w w' := by
  by_cases h1 : n < 1
  · go_enter Yba.func4, Yba.ntmps4
    go_wp2
    go_ret
    exact ⟨rfl, Below.refl _ _⟩
  by_cases h2 : 1048576 < n
  · go_enter Yba.func4, Yba.ntmps4
    go_wp2
    go_ret
    exact ⟨rfl, Below.refl _ _⟩
  by_cases h3 : k < 0
  · go_enter Yba.func4, Yba.ntmps4
    go_wp2
    go_ret
    exact ⟨rfl, Below.refl _ _⟩
  by_cases h4 : 1099511627776 < k
  · go_enter Yba.func4, Yba.ntmps4
    go_wp2
    go_ret
    exact ⟨rfl, Below.refl _ _⟩
  · have d1 := div_facts k n (by omega) (by omega)
    have d2 := div_facts (k + n - 1) n (by omega) (by omega)
    go_enter Yba.func4, Yba.ntmps4
    go_wp2_with fail
    refine (bounds_max k t n (by omega) (by omega) (by omega) (by omega) _).mono ?_
    rintro e w' ⟨rfl, hB⟩
    generalize k / n = q at *
    generalize (k + n - 1) / n = m at *
    obtain ⟨q0, q1, q2⟩ := d1
    obtain ⟨m0, m1, m2⟩ := d2
    go_wp2
    go_ret
    exact ⟨rfl, hB⟩

set_option maxHeartbeats 800000 in
theorem quorum_walk (k t n : Int) (w : World) :
    Calls Yba.prog 5 #[.int .i64 k, .int .i64 t, .int .i64 n] w fun e w' => e = .returned (.bool true) ∧ Below w.heap.size w w' := by
  by_cases h1 : n < 1
  · go_enter Yba.func5, Yba.ntmps5
    go_wp2
    go_ret
    exact ⟨rfl, Below.refl _ _⟩
  by_cases h2 : 1048576 < n
  · go_enter Yba.func5, Yba.ntmps5
    go_wp2
    go_ret
    exact ⟨rfl, Below.refl _ _⟩
  by_cases h3 : t < 0
  · go_enter Yba.func5, Yba.ntmps5
    go_wp2
    go_ret
    exact ⟨rfl, Below.refl _ _⟩
  by_cases h4 : 1099511627776 < t
  · go_enter Yba.func5, Yba.ntmps5
    go_wp2
    go_ret
    exact ⟨rfl, Below.refl _ _⟩
  by_cases h5 : k < -1099511627776
  · go_enter Yba.func5, Yba.ntmps5
    go_wp2
    go_ret
    exact ⟨rfl, Below.refl _ _⟩
  by_cases h6 : 1099511627776 < k
  · go_enter Yba.func5, Yba.ntmps5
    go_wp2
    go_ret
    exact ⟨rfl, Below.refl _ _⟩
  · have d1 := div_facts t n (by omega) (by omega)
    have dl : t / n ≤ t := Int.ediv_le_self _ (by omega)
    have hc := ceil_facts t n (by omega) (by omega)
    obtain ⟨m, hm⟩ : ∃ m, m = max (t - (t / 2 + 1)) ((t + n - 1) / n) := ⟨_, rfl⟩
    have hcall := bounds_quorum k t n (by omega) (by omega) (by omega) (by omega) w
    rw [← hm] at hcall
    rw [hc] at hm
    have hm1 : t - (t / 2 + 1) ≤ m := by rw [hm]; exact Int.le_max_left _ _
    clear hc
    -- what the law compares 'most' with, way by way
    by_cases e1 : t % 2 = 0 <;> by_cases e2 : t / n * n < t
    · rw [if_pos e2] at hm
      have hm2 : t / n + 1 ≤ m := by rw [hm]; exact Int.le_max_right _ _
      by_cases e3 : t / 2 - 1 < t / n + 1
      · have hm3 : m ≤ t / n + 1 := by rw [hm]; exact Int.max_le.2 ⟨by omega, Int.le_refl _⟩
        clear hm
        go_enter Yba.func5, Yba.ntmps5
        go_wp2_with fail
        refine hcall.mono ?_
        rintro e w' ⟨rfl, rfl⟩
        clear hcall
        go_wp2
        go_ret
        exact ⟨ret_true (show m = _ by omega), Below.refl _ _⟩
      · have hm3 : m ≤ t / 2 - 1 := by rw [hm]; exact Int.max_le.2 ⟨by omega, by omega⟩
        clear hm
        go_enter Yba.func5, Yba.ntmps5
        go_wp2_with fail
        refine hcall.mono ?_
        rintro e w' ⟨rfl, rfl⟩
        clear hcall
        go_wp2
        go_ret
        exact ⟨ret_true (show m = _ by omega), Below.refl _ _⟩
    · rw [if_neg e2] at hm
      have hm2 : t / n ≤ m := by rw [hm]; exact Int.le_max_right _ _
      by_cases e3 : t / 2 - 1 < t / n
      · have hm3 : m ≤ t / n := by rw [hm]; exact Int.max_le.2 ⟨by omega, Int.le_refl _⟩
        clear hm
        go_enter Yba.func5, Yba.ntmps5
        go_wp2_with fail
        refine hcall.mono ?_
        rintro e w' ⟨rfl, rfl⟩
        clear hcall
        go_wp2
        go_ret
        exact ⟨ret_true (show m = _ by omega), Below.refl _ _⟩
      · have hm3 : m ≤ t / 2 - 1 := by rw [hm]; exact Int.max_le.2 ⟨by omega, by omega⟩
        clear hm
        go_enter Yba.func5, Yba.ntmps5
        go_wp2_with fail
        refine hcall.mono ?_
        rintro e w' ⟨rfl, rfl⟩
        clear hcall
        go_wp2
        go_ret
        exact ⟨ret_true (show m = _ by omega), Below.refl _ _⟩
    · rw [if_pos e2] at hm
      have hm2 : t / n + 1 ≤ m := by rw [hm]; exact Int.le_max_right _ _
      by_cases e3 : t / 2 < t / n + 1
      · have hm3 : m ≤ t / n + 1 := by rw [hm]; exact Int.max_le.2 ⟨by omega, Int.le_refl _⟩
        clear hm
        go_enter Yba.func5, Yba.ntmps5
        go_wp2_with fail
        refine hcall.mono ?_
        rintro e w' ⟨rfl, rfl⟩
        clear hcall
        go_wp2
        go_ret
        exact ⟨ret_true (show m = _ by omega), Below.refl _ _⟩
      · have hm3 : m ≤ t / 2 := by rw [hm]; exact Int.max_le.2 ⟨by omega, by omega⟩
        clear hm
        go_enter Yba.func5, Yba.ntmps5
        go_wp2_with fail
        refine hcall.mono ?_
        rintro e w' ⟨rfl, rfl⟩
        clear hcall
        go_wp2
        go_ret
        exact ⟨ret_true (show m = _ by omega), Below.refl _ _⟩
    · rw [if_neg e2] at hm
      have hm2 : t / n ≤ m := by rw [hm]; exact Int.le_max_right _ _
      by_cases e3 : t / 2 < t / n
      · have hm3 : m ≤ t / n := by rw [hm]; exact Int.max_le.2 ⟨by omega, Int.le_refl _⟩
        clear hm
        go_enter Yba.func5, Yba.ntmps5
        go_wp2_with fail
        refine hcall.mono ?_
        rintro e w' ⟨rfl, rfl⟩
        clear hcall
        go_wp2
        go_ret
        exact ⟨ret_true (show m = _ by omega), Below.refl _ _⟩
      · have hm3 : m ≤ t / 2 := by rw [hm]; exact Int.max_le.2 ⟨by omega, by omega⟩
        clear hm
        go_enter Yba.func5, Yba.ntmps5
        go_wp2_with fail
        refine hcall.mono ?_
        rintro e w' ⟨rfl, rfl⟩
        clear hcall
        go_wp2
        go_ret
        exact ⟨ret_true (show m = _ by omega), Below.refl _ _⟩
end Go.Proofs.Ybulkbwfg
