/-
  The walk of 'zzs3634bbuild' (function 9).
-/
import Derived.Test.YbulkbwfuGrowParts
namespace Go.Proofs.Ybulkbwfu
open Go.RowKit Go.Proofs

/-- The spare name at k, and every member's name and byte. -/
def spareAt (m : Nat) (S : Nat → ByteArray) (k : Nat) : ByteArray := if m = 0 then { data := #[] } else S (k % m)
def nameAt (n : Nat) (N : Nat → ByteArray) (m : Nat) (S : Nat → ByteArray) (j : Nat) : ByteArray := if j < n then N j else spareAt m S (j - n)
def byteAt (n j : Nat) : Int := if j < n then (j : Int) % 256 else 238

theorem nameAt_lt {n m j : Nat} {N S : Nat → ByteArray} (h : j < n) : N j = nameAt n N m S j := by unfold nameAt; rw [if_pos h]
theorem byteAt_lt {n j : Nat} (h : j < n) : (j : Int) % 256 = byteAt n j := by unfold byteAt; rw [if_pos h]
theorem nameAt_none {n m j : Nat} {N S : Nat → ByteArray} (h : ¬ j < n) (hm : m = 0) : ({ data := #[] } : ByteArray) = nameAt n N m S j := by unfold nameAt spareAt; rw [if_neg h, if_pos hm]
theorem nameAt_some {n m j : Nat} {N S : Nat → ByteArray} (h : ¬ j < n) (hm : 0 < m) : S ((j - n) % m) = nameAt n N m S j := by unfold nameAt spareAt; rw [if_neg h, if_neg (by omega)]
theorem byteAt_ge {n j : Nat} (h : ¬ j < n) : (238 : Int) = byteAt n j := by unfold byteAt; rw [if_neg h]

set_option maxHeartbeats 1000000 in
theorem build_any (an : Option Addr) (n nc nb no : Nat) (N : Nat → ByteArray) (asp : Option Addr) (m mc mb mo : Nat) (S : Nat → ByteArray) (e : Nat) (w : World)
    (hn : n ≤ 1024) (hm : m ≤ 1024) (he : e ≤ 7)
    (han : 0 < n → an = some ⟨nb, no, none⟩) (hN : ∀ i, i < n → w.cell? ⟨nb, no + i, none⟩ = some (.string (N i)))
    (has : 0 < m → asp = some ⟨mb, mo, none⟩) (hS : ∀ i, i < m → w.cell? ⟨mb, mo + i, none⟩ = some (.string (S i))) :
    Calls Yba.prog 9 #[.slice an n nc, .slice asp m mc, .int .i64 e] w fun ex w' => ex = .returned (.slice (some ⟨w.heap.size, 0, none⟩) (n + e) (n + e)) ∧ Built w w' w.heap.size (n + e) (n + e) (nameAt n N m S) (byteAt n) := by
  have k1 := mk_members ((n : Int) + (e : Int)) (n + e) (by omega) (by omega)
  have kb := fun (wx : World) (s : ByteArray) => Lib.run_convert_string_bytes (P := Yba.prog) wx 9 22 5 s Yba.underlying9 Yba.underlying22 Yba.underlying5
  have hst := built_start w (n + e) (nameAt n N m S) (byteAt n)
  have HST : Hid (Built w (w.alloc (.cells (memZeros (n + e)) 33)) w.heap.size (n + e) 0 (nameAt n N m S) (byteAt n)) := hst
  have HN : Hid (∀ i, i < n → w.cell? ⟨nb, no + i, none⟩ = some (.string (N i))) := hN
  have HS : Hid (∀ i, i < m → w.cell? ⟨mb, mo + i, none⟩ = some (.string (S i))) := hS
  clear hst hN hS
  go_enter Yba.func9, Yba.ntmps9
  go_wp2_with fail
  clear k1
  go_loopg [9] n (fun k i wr => ∃ j : Nat, j ≤ n ∧ k = n - j ∧ i = .int .i64 j ∧ Built w wr w.heap.size (n + e) j (nameAt n N m S) (byteAt n))
  case atStart => exact ⟨0, Nat.zero_le _, rfl, rfl, HST.out⟩
  case round =>
    clear HST
    obtain ⟨j, hj, rfl, rfl, hb⟩ := hrel
    by_cases hlt : j < n
    · obtain rfl := han (by omega)
      have cN : wr.cell? ⟨nb, no + j, none⟩ = some (.string (N j)) := cell_later hb.below (HN.out j hlt)
      have hw := hb.lt
      have f1 : ∀ o, (Lib.bytesWorld wr 5 (N j)).frozen? ⟨w.heap.size, o, none⟩ = false := fun o => by
        rw [World.frozen?_of_block (w := wr) (Lib.bytesWorld_at_old wr 5 (N j) w.heap.size hw)]
        exact hb.frozenAt o
      obtain ⟨u1, c1⟩ := hb.cellAt (j * 3) (by omega)
      obtain ⟨u2, c2⟩ := hb.cellAt (j * 3 + 1) (by omega)
      rw [← Lib.bytesWorld_old wr 5 (N j) ⟨w.heap.size, _, none⟩ hw] at c1 c2
      have hz := Lib.bytesWorld_size wr 5 (N j)
      go_wp2_with fail
      go_roundg (n - (j + 1))
      case measure => omega
      case rel => exact ⟨j + 1, by omega, rfl, by go_num, built_step hb (by omega) (nameAt_lt hlt) (byteAt_lt hlt)⟩
    · have hjn : j = n := by omega
      subst hjn
      go_wp2_with fail
      go_loopg [10] e (fun k i wx => ∃ q : Nat, j ≤ q ∧ q ≤ j + e ∧ k = j + e - q ∧ i = .int .i64 q ∧ Built w wx w.heap.size (j + e) q (nameAt j N m S) (byteAt j))
      case atStart => exact ⟨j, Nat.le_refl _, by omega, by omega, rfl, hb⟩
      case round =>
        clear hb
        obtain ⟨q, hq1, hq2, rfl, rfl, hb⟩ := hrel
        by_cases hqe : q < j + e
        · by_cases hm0 : m = 0
          · subst hm0
            have hw := hb.lt
            have f1 : ∀ o, (Lib.bytesWorld wr 5 { data := #[] }).frozen? ⟨w.heap.size, o, none⟩ = false := fun o => by
              rw [World.frozen?_of_block (w := wr) (Lib.bytesWorld_at_old wr 5 { data := #[] } w.heap.size hw)]
              exact hb.frozenAt o
            obtain ⟨u1, c1⟩ := hb.cellAt (q * 3) (by omega)
            obtain ⟨u2, c2⟩ := hb.cellAt (q * 3 + 1) (by omega)
            rw [← Lib.bytesWorld_old wr 5 { data := #[] } ⟨w.heap.size, _, none⟩ hw] at c1 c2
            have hz := Lib.bytesWorld_size wr 5 { data := #[] }
            go_wp2_with fail
            go_roundg (j + e - (q + 1))
            case measure => omega
            case rel => exact ⟨q + 1, by omega, by omega, rfl, by go_num, built_step hb (by omega) (nameAt_none (by omega) rfl) (byteAt_ge (by omega))⟩
          · have hmp : 0 < m := by omega
            obtain rfl := has hmp
            have hmod : (q - j) % m < m := Nat.mod_lt _ hmp
            have cS : wr.cell? ⟨mb, mo + (q - j) % m, none⟩ = some (.string (S ((q - j) % m))) := cell_later hb.below (HS.out _ hmod)
            have hw := hb.lt
            have f1 : ∀ o, (Lib.bytesWorld wr 5 (S ((q - j) % m))).frozen? ⟨w.heap.size, o, none⟩ = false := fun o => by
              rw [World.frozen?_of_block (w := wr) (Lib.bytesWorld_at_old wr 5 (S ((q - j) % m)) w.heap.size hw)]
              exact hb.frozenAt o
            obtain ⟨u1, c1⟩ := hb.cellAt (q * 3) (by omega)
            obtain ⟨u2, c2⟩ := hb.cellAt (q * 3 + 1) (by omega)
            rw [← Lib.bytesWorld_old wr 5 (S ((q - j) % m)) ⟨w.heap.size, _, none⟩ hw] at c1 c2
            have hz := Lib.bytesWorld_size wr 5 (S ((q - j) % m))
            have b1 : 0 ≤ ((q : Int) - (j : Int)) % (m : Int) := Int.emod_nonneg _ (by omega)
            have b2 : ((q : Int) - (j : Int)) % (m : Int) < (m : Int) := Int.emod_lt_of_pos _ (by omega)
            go_wp2_with fail
            go_roundg (j + e - (q + 1))
            case measure => omega
            case rel => exact ⟨q + 1, by omega, by omega, rfl, by go_num, built_step hb (by omega) (nameAt_some (by omega) hmp) (byteAt_ge (by omega))⟩
        · have hqq : q = j + e := by omega
          subst hqq
          go_wp2_with fail
          go_ret
          exact ⟨rfl, hb⟩
end Go.Proofs.Ybulkbwfu
