/-
  The walk of 'zzs3634cspan' (function 12).
-/
import Derived.Test.YbulkbwfuEsc
namespace Go.Proofs.Ybulkbwfu
open Go.RowKit Go.Proofs

def loN (l a b : Nat) : Nat := min (a % (l + 1)) (b % (l + 1))
def hiN (l a b : Nat) : Nat := max (a % (l + 1)) (b % (l + 1))
theorem lo_le_hi (l a b : Nat) : loN l a b ≤ hiN l a b := by unfold loN hiN; omega
theorem hi_le (l a b : Nat) : hiN l a b ≤ l := by
  have h1 := Nat.mod_lt a (show 0 < l + 1 by omega)
  have h2 := Nat.mod_lt b (show 0 < l + 1 by omega)
  unfold hiN
  omega

set_option maxHeartbeats 400000 in
theorem span_any (l a b : Nat) (hl : l ≤ 4096) (ha : a ≤ 65535) (hb : b ≤ 65535) (w : World) :
    Calls Yba.prog 12 #[.int .u16 a, .int .u16 b, .int .i64 l] w fun e w' => e = .returned (.agg #[.int .i64 (loN l a b), .int .i64 (hiN l a b)]) ∧ w' = w.alloc (.cells #[.int .i64 (loN l a b), .int .i64 (hiN l a b)] 48) := by
  have h1 : (a : Int) % ((l : Int) + 1) = ((a % (l + 1) : Nat) : Int) := by rw [Int.natCast_emod]; rfl
  have h2 : (b : Int) % ((l : Int) + 1) = ((b % (l + 1) : Nat) : Int) := by rw [Int.natCast_emod]; rfl
  have m1 := Nat.mod_lt a (show 0 < l + 1 by omega)
  have m2 := Nat.mod_lt b (show 0 < l + 1 by omega)
  unfold loN hiN
  generalize a % (l + 1) = x at h1 m1 ⊢
  generalize b % (l + 1) = y at h2 m2 ⊢
  by_cases hxy : y < x
  · rw [Nat.min_eq_right (by omega), Nat.max_eq_left (by omega)]
    have hz : (y : Int) < (x : Int) := by omega
    go_enter Yba.func12, Yba.ntmps12
    go_wp2
    exact bodyPost_ret (v := .agg #[.int .i64 y, .int .i64 x]) (by simp [results, Yba.results12, go_sem]) rfl ⟨rfl, rfl⟩
  · rw [Nat.min_eq_left (by omega), Nat.max_eq_right (by omega)]
    have hz : ¬ (y : Int) < (x : Int) := by omega
    go_enter Yba.func12, Yba.ntmps12
    go_wp2
    exact bodyPost_ret (v := .agg #[.int .i64 x, .int .i64 y]) (by simp [results, Yba.results12, go_sem]) rfl ⟨rfl, rfl⟩
end Go.Proofs.Ybulkbwfu
