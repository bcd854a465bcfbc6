/-
  The walk of 'flow.LawS3633CShape' (function 6).
-/
import Derived.Test.YbulkbwfgNew
namespace Go.Proofs.Ybulkbwfg
open Go.RowKit Go.Proofs

set_option maxHeartbeats 800000 in
theorem shape_walk (v e : Nat) (hv : v ≤ 65535) (he : e ≤ 65535) (w : World) :
    Calls Yba.prog 6 #[.int .u16 v, .int .u16 e] w fun ex w' => ex = .returned (.bool true) ∧ Below w.heap.size w w' := by
  go_enter Yba.func6, Yba.ntmps6
  go_wp2_with fail
  refine (new_any v e hv he _).mono ?_
  rintro ex w1 ⟨g, b1, b3, rfl, hN, hB⟩
  obtain ⟨b0, c0⟩ := hN.c0
  obtain ⟨b2, c2⟩ := hN.c2
  have c1 := hN.c1
  have c3 := hN.c3
  go_wp2
  go_loop [8] (fun i => ∃ k : Nat, k ≤ v ∧ i = .int .i64 k) (fun i => v - (intOf i).toNat)
  case atStart => exact ⟨0, Nat.zero_le _, rfl⟩
  case round =>
    obtain ⟨k, hk, rfl⟩ := hrel
    clear c0 c2
    by_cases hlt : k < v
    · have x1 := hN.r1.cell hlt
      have x3 := hN.r3.cell hlt
      unfold lessF at x1
      unfold zeroF at x3
      go_wp2
      go_round
      case rel => exact ⟨k + 1, by omega, by go_num⟩
      case measure => simp [intOf]; omega
    · go_wp2
      go_ret
      exact ⟨rfl, hB⟩
end Go.Proofs.Ybulkbwfg
