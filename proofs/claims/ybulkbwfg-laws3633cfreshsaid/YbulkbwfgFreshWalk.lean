/-
  The walk of 'flow.LawS3633CFresh' (function 7).
-/
import Derived.Test.YbulkbwfgNew
namespace Go.Proofs.Ybulkbwfg
open Go.RowKit Go.Proofs

/-- What a's 'first' and 'excess' hold when k of their cells are written. -/
def wroteF (k : Nat) : Nat → Value := fun j => if j < k then .int .i64 (j : Int) else .int .i64 (-1)
def wroteX (k : Nat) : Nat → Value := fun j => if j < k then .int .i64 ((j : Int) + 1) else .int .i64 0

theorem net_wrote {B : Nat} {w : World} {v e g b1 b3 i : Nat} (h : Net B w v e g b1 b3 (wroteF i) (wroteX i)) :
    Net B ((w.setCell ⟨b1, i, none⟩ (.int .i64 (i : Int))).setCell ⟨b3, i, none⟩ (.int .i64 ((i : Int) + 1))) v e g b1 b3 (wroteF (i + 1)) (wroteX (i + 1)) :=
  ((h.set1 i _).set3 i _).congr (fun j _ => by
    unfold wroteF
    by_cases e : j = i
    · subst e; simp
    · rw [if_neg e]
      by_cases hlt : j < i
      · rw [if_pos hlt, if_pos (by omega)]
      · rw [if_neg hlt, if_neg (by omega)]) (fun j _ => by
    unfold wroteX
    by_cases e : j = i
    · subst e; simp
    · rw [if_neg e]
      by_cases hlt : j < i
      · rw [if_pos hlt, if_pos (by omega)]
      · rw [if_neg hlt, if_neg (by omega)])

set_option maxHeartbeats 800000 in
theorem fresh_walk (v : Nat) (hv : v ≤ 255) (w : World) :
    Calls Yba.prog 7 #[.int .u8 v] w fun ex w' => ex = .returned (.bool true) ∧ Below w.heap.size w w' := by
  go_enter Yba.func7, Yba.ntmps7
  go_wp2_with fail
  refine (new_any v v (by omega) (by omega) _).mono ?_
  rintro ex w1 ⟨ga, a1, a3, rfl, hA, hB⟩
  go_wp2_with fail
  refine (new_any v v (by omega) (by omega) _).mono ?_
  rintro ex w2 ⟨gb, b1, b3, rfl, hN, hB2⟩
  have hA2 := hA.of_blocks hB2.block
  have hlt1 := hA.lt
  have hlt2 := hA.r1.lt
  have hlt3 := hA.r3.lt
  have hB3 := hB.trans (hB2.mono hB.size)
  clear hA hB hB2
  go_wp2
  go_loopg [6] v (fun k s wr => ∃ i : Nat, i ≤ v ∧ k = v - i ∧ s = .int .i64 i ∧ Net w.heap.size wr v v ga a1 a3 (wroteF i) (wroteX i) ∧ Net w1.heap.size wr v v gb b1 b3 lessF zeroF ∧ Below w.heap.size w wr)
  case atStart => exact ⟨0, Nat.zero_le _, rfl, rfl, hA2.congr (fun _ _ => by simp [lessF, wroteF]) (fun _ _ => by simp [zeroF, wroteX]), hN, hB3⟩
  case round =>
    clear hA2 hN hB3
    obtain ⟨i, hi, rfl, rfl, hA, hN, hB⟩ := hrel
    by_cases hlt : i < v
    · have c1 := hA.c1
      have c3 := hA.c3
      have f1 := hA.r1.frozen i
      have f3 := hA.r3.frozen i
      have x1 := hA.r1.cell hlt
      have x3 := hA.r3.cell hlt
      have n1 := hA.ng1
      have n3 := hA.ng3
      have n13 := hA.n13
      have hA' := hA.set1 i (.int .i64 (i : Int))
      have d3 := hA'.c3
      have y3 := hA'.r3.cell hlt
      have z3 := hA'.r3.frozen i
      clear hA'
      go_wp2
      go_roundg (v - (i + 1))
      case measure => omega
      case rel =>
        have q1 := hN.hg
        have q2 := hN.h1
        have q3 := hN.h3
        exact ⟨i + 1, by omega, rfl, by go_num, net_wrote hA, (hN.setOther _ _ (by simp; omega) (by simp; omega) (by simp; omega)).setOther _ _ (by simp; omega) (by simp; omega) (by simp; omega), (hB.setCell hA.h1 _).setCell hA.h3 _⟩
    · have hiv : i = v := by omega
      subst hiv
      go_wp2
      go_loop [7] (fun s => ∃ k : Nat, k ≤ i ∧ s = .int .i64 k) (fun s => i - (intOf s).toNat)
      case atStart => exact ⟨0, Nat.zero_le _, rfl⟩
      case round =>
        obtain ⟨k, hk, rfl⟩ := hrel
        by_cases hki : k < i
        · have a1 := hA.c1
          have a3 := hA.c3
          have p1 := hA.r1.cell hki
          have p3 := hA.r3.cell hki
          have d1 := hN.c1
          have d3 := hN.c3
          have x1 := hN.r1.cell hki
          have x3 := hN.r3.cell hki
          unfold lessF at x1
          unfold zeroF at x3
          unfold wroteF at p1
          unfold wroteX at p3
          rw [if_pos hki] at p1 p3
          go_wp2
          go_round
          case rel => exact ⟨k + 1, by omega, by go_num⟩
          case measure => simp [intOf]; omega
        · go_wp2
          go_ret
          exact ⟨rfl, hB⟩
end Go.Proofs.Ybulkbwfg
