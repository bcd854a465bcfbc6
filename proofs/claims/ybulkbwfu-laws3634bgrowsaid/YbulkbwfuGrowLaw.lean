/-
  The walk of 'LawS3634BGrow' (function 4).
-/
import Derived.Test.YbulkbwfuGrowLoop
namespace Go.Proofs.Ybulkbwfu
open Go.RowKit Go.Proofs

set_option maxHeartbeats 1000000 in
set_option maxRecDepth 100000 in
theorem grow_law (an : Option Addr) (n nc nb no : Nat) (N : Nat → ByteArray) (asp : Option Addr) (m mc mb mo : Nat) (S : Nat → ByteArray) (r : Nat) (u : Bool) (w : World)
    (hn : n ≤ 1024) (hm : m ≤ 1024) (hr : r ≤ 255)
    (han : 0 < n → an = some ⟨nb, no, none⟩) (hN : ∀ i, i < n → w.cell? ⟨nb, no + i, none⟩ = some (.string (N i)))
    (has : 0 < m → asp = some ⟨mb, mo, none⟩) (hS : ∀ i, i < m → w.cell? ⟨mb, mo + i, none⟩ = some (.string (S i))) :
    Calls Yba.prog 4 #[.slice an n nc, .slice asp m mc, .int .u8 r, .bool u] w fun ex w' => ex = .returned (.bool true) ∧ Below w.heap.size w w' := by
  obtain ⟨e, hee⟩ : ∃ e, e = r % 8 := ⟨_, rfl⟩
  have he : e ≤ 7 := by omega
  have hcall := build_any an n nc nb no N asp m mc mb mo S e w hn hm he han hN has hS
  have HC : Hid (Calls Yba.prog 9 #[.slice an n nc, .slice asp m mc, .int .i64 e] w fun ex w' => ex = .returned (.slice (some ⟨w.heap.size, 0, none⟩) (n + e) (n + e)) ∧ Built w w' w.heap.size (n + e) (n + e) (nameAt n N m S) (byteAt n)) := hcall
  have HN : Hid (∀ i, i < n → w.cell? ⟨nb, no + i, none⟩ = some (.string (N i))) := hN
  have HS : Hid (∀ i, i < m → w.cell? ⟨mb, mo + i, none⟩ = some (.string (S i))) := hS
  have HE : Hid (((r : Int) % 8) = (e : Int)) := by unfold Hid; omega
  clear hN hS hcall hee
  go_enter Yba.func4, Yba.ntmps4
  go_wp2_with fail
  rw [HE.out]
  refine HC.out.mono ?_
  rintro ex w1 ⟨rfl, hb⟩
  clear HC
  go_upto_region 7 with fail
  obtain ⟨nilb, hnil⟩ : ∃ b : Bool, (b = true ↔ u = true ∧ n = 0 ∧ e = 0) := ⟨decide (u = true ∧ n = 0 ∧ e = 0), by simp⟩
  have HNB : Hid (nilb = true ↔ u = true ∧ n = 0 ∧ e = 0) := hnil
  clear hnil
  -- the test
  go_cut [43] (fun s43 wx => s43 = .bool nilb ∧ wx = w1.alloc (.cells #[.slice (some ⟨w.heap.size, 0, none⟩) n (n + e)] 28))
  case first =>
    cases u with
    | false =>
      obtain rfl : nilb = false := by cases nilb; rfl; exact absurd (HNB.out.1 rfl).1 (by simp)
      go_wp2_with fail
      go_meet
      exact ⟨rfl, rfl⟩
    | true =>
      by_cases h0 : n = 0
      · have e0 : ((n : Int) == 0) = true := by rw [beq_iff_eq]; omega
        by_cases h1 : e = 0
        · obtain rfl : nilb = true := HNB.out.2 ⟨rfl, h0, h1⟩
          have e1 : ((e : Int) == 0) = true := by rw [beq_iff_eq]; omega
          clear h0 h1
          go_wp2_with fail
          go_meet
          exact ⟨rfl, rfl⟩
        · obtain rfl : nilb = false := by cases nilb; rfl; exact absurd (HNB.out.1 rfl).2.2 h1
          have e1 : ((e : Int) == 0) = false := beq_eq_false_iff_ne.2 (by omega)
          clear h0 h1
          go_wp2_with fail
          go_meet
          exact ⟨rfl, rfl⟩
      · obtain rfl : nilb = false := by cases nilb; rfl; exact absurd (HNB.out.1 rfl).2.1 h0
        have e0 : ((n : Int) == 0) = false := beq_eq_false_iff_ne.2 (by omega)
        clear h0
        go_wp2_with fail
        go_meet
        exact ⟨rfl, rfl⟩
  case rest =>
  obtain ⟨rfl, rfl⟩ := hcut
  go_upto_if 43 with fail
  go_cut [] (fun wx => Ahead w1 wx w.heap.size n e)
  case first =>
    cases nilb with
    | false =>
      go_wp2_with fail
      go_meet
      exact ahead_start w1 _ n e
    | true =>
      have H0 : Hid (n = 0 ∧ e = 0) := (HNB.out.1 rfl).2
      go_wp2_with fail
      go_meet
      exact ahead_nil w1 _ n e H0.out.1 H0.out.2
  case rest =>
  clear HNB
  go_upto_region 9 with fail
  go_cut [13] (fun s13 wx => ∃ G, s13 = .pointer (some ⟨G, n * 3, none⟩) ∧ After w1 wx w.heap.size G n e)
  case first =>
    obtain ⟨ha1, ha2, ha3, ao, ha4, ha5⟩ := hcut
    by_cases h0 : 0 < e
    · obtain rfl : ao = some ⟨w.heap.size, 0, none⟩ := by rcases ha5 with h | h; exact h; omega
      go_wp2_with fail
      refine (grow_room w1.heap.size w.heap.size n (n + e) wc (by omega) (by omega) ha4 ha3).mono ?_
      rintro ex w3 ⟨rfl, hsto⟩
      go_wp2_with fail
      go_meet
      exact ⟨_, rfl, after_room ha1 ⟨_, ha4⟩ h0 hsto⟩
    · obtain rfl : e = 0 := by omega
      obtain ⟨cur, hcur, hcs⟩ := hb.row
      have hcells : ∀ j (x : Value), j < n * 3 → w1.cell? ⟨w.heap.size, j, none⟩ = some x → cur.toList[j]? = some x := fun j x _ hx => by
        simp [World.cell?, hcur] at hx
        simpa using hx
      have hback : ∀ b, ao = some b → ∀ j x, cur.toList[j]? = some x → wc.cell? (b.add j) = some x := fun b hb' j x hx => by
        rcases ha5 with h | h
        · rw [h] at hb'
          cases hb'
          rw [Addr.add_lit, Nat.zero_add]
          refine cell_later ha1 ?_
          simp [World.cell?, hcur]
          simpa using hx
        · rw [h.1] at hb'; cases hb'
      go_wp2_with fail
      refine (grow_full ao w1.heap.size n cur.toList wc (by omega) (fun h => by rcases ha5 with h' | h'; rw [h] at h'; cases h'; exact h'.2.1) (by simpa using hcs) hback ha4 ha3).mono ?_
      rintro ex w3 ⟨G, cap, rfl, hg⟩
      go_wp2_with fail
      go_meet
      exact ⟨_, rfl, after_full ha1 ha2 hcells hg⟩
  case rest =>
  obtain ⟨G, rfl, hA⟩ := hcut
  apply_assumption
  exact grow_loop hn hm he han HN has HS hb hA

set_option maxHeartbeats 400000 in
set_option maxRecDepth 100000 in
theorem grow_long (an : Option Addr) (n nc : Nat) (asp : Option Addr) (m mc : Nat) (r : Int) (u : Bool) (w : World) (h : 1024 < n ∨ 1024 < m) :
    Calls Yba.prog 4 #[.slice an n nc, .slice asp m mc, .int .u8 r, .bool u] w fun ex w' => ex = .returned (.bool true) ∧ Below w.heap.size w w' := by
  by_cases h1 : 1024 < n
  · have g1 : (1024 : Int) < (n : Int) := by omega
    go_enter Yba.func4, Yba.ntmps4
    go_wp2
    go_ret
    exact ⟨rfl, Below.refl _ _⟩
  · have g1 : ¬ (1024 : Int) < (n : Int) := by omega
    have g2 : (1024 : Int) < (m : Int) := by omega
    go_enter Yba.func4, Yba.ntmps4
    go_wp2
    go_ret
    exact ⟨rfl, Below.refl _ _⟩
end Go.Proofs.Ybulkbwfu
