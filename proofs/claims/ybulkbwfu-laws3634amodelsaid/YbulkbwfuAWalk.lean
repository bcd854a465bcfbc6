/-
  The walk of 'LawS3634AModel' (function 3).
-/
import Derived.Test.YbulkbwfuModelWalk
import Derived.Test.YbulkbwfuJsonWalk
import Derived.Test.YbulkbwfuAParts
namespace Go.Proofs.Ybulkbwfu
open Go.RowKit Go.Proofs

/-- The bytes of the whole result, as numbers. -/
def outInts (L : List Int) (s : ByteArray) : List Int := L ++ [34] ++ (s.data.toList.flatMap fun b => (escN b.toNat).map fun (n : Nat) => (n : Int)) ++ [34]
theorem out_cells (L : List Int) (s : ByteArray) : L.map (Value.int .u8) ++ cellsN [34] ++ escAll s s.size ++ cellsN [34] = (outInts L s).map (Value.int .u8) := by
  have e : s.data.toList.take s.size = s.data.toList := List.take_of_length_le (Nat.le_refl _)
  unfold outInts escAll cellsN
  rw [e]
  simp [List.map_flatMap, Function.comp_def]

theorem cells_of_block {w : World} {g : Nat} {L : List Int} (h : w.heap[g]? = some (.cells (L.map (Value.int .u8)).toArray 5 (0, 0))) : ∀ (j : Nat) (u : Value), (L.map (Value.int .u8))[j]? = some u → w.cell? ⟨g, j, none⟩ = some u := by
  intro j u hj
  simp [World.cell?, h]
  simpa using hj

theorem own_of_block {w : World} {g n : Nat} {L : List Int} (h : w.heap[g]? = some (.cells (L.map (Value.int .u8)).toArray 5 (0, 0))) (hL : L.length = n) (hn : n ≤ maxLen) : w.ownsRow 0 5 1 (.slice (some ⟨g, 0, none⟩) n n) n (L.map (Value.int .u8)) :=
  ⟨by simpa using hL, .inr ⟨g, n, _, rfl, Nat.zero_le _, h, Nat.le_refl _, hn, by simpa using hL, by rw [Nat.mul_one, ← hL]; exact List.take_of_length_le (by simp)⟩⟩

theorem hide1 {p : Prop} (h : p) : Hid p := h

set_option maxHeartbeats 1000000 in
/-- The main way: both lengths within the law's bound; the bytes of b read as L in w. -/
theorem amodel_main (a0 : Option Addr) (n cap : Nat) (s : ByteArray) (L : List Int) (w : World) (hn : n ≤ 4096) (hs : s.size ≤ 4096) (hL : L.length = n)
    (hsrc : 0 < n → ∃ ad, a0 = some ad ∧ ∀ i, i < n → w.cell? (ad.add i) = some (.int .u8 (L.getD i 0)))
    (hconv : ∀ w', Below w.heap.size w w' → (convert 22 9 (.slice a0 n cap)).run Yba.prog w' = .ok (.string (strOfNums L)) w') :
    Calls Yba.prog 3 #[.slice a0 n cap, .string s] w fun e w' => e = .returned (.bool true) ∧ Below w.heap.size w w' := by
  have hmk := make_bytes n (by omega)
  have hnl : n ≤ maxLen := by unfold maxLen; omega
  have hxl : (L.map (Value.int .u8)).length = n := by simpa using hL
  have cellk : ∀ {wx : World}, Below w.heap.size w wx → 0 < n → ∃ ad, a0 = some ad ∧ ∀ i, i < n → wx.cell? (ad.add i) = some (.int .u8 (L.getD i 0)) := by
    intro wx hb h0
    obtain ⟨ad, e, hc⟩ := hsrc h0
    exact ⟨ad, e, fun i hi => cell_later hb (hc i hi)⟩
  have HK : Hid (∀ {wx : World}, Below w.heap.size w wx → 0 < n → ∃ ad, a0 = some ad ∧ ∀ i, i < n → wx.cell? (ad.add i) = some (.int .u8 (L.getD i 0))) := cellk
  have HC : Hid (∀ w', Below w.heap.size w w' → (convert 22 9 (.slice a0 n cap)).run Yba.prog w' = .ok (.string (strOfNums L)) w') := hconv
  clear cellk hsrc hconv
  go_enter Yba.func3, Yba.ntmps3
  go_wp2_with (first | (refine copy_full _ rfl (.tmp 19) (.tmp 20) rfl w.heap.size n rfl a0 cap rfl (heap_alloc_new _ _) L hL (fun h0 => HK.out ((Below.refl _ _).alloc (Nat.le_refl _) _) h0) ?_; intro w1 hg1 hb1))
  have hs1 : w.heap.size < w1.heap.size := by have := hb1.size; simp at this; omega
  have hB1 : Below w.heap.size w w1 := ((Below.refl _ _).alloc (Nat.le_refl _) _).trans hb1
  clear hb1
  refine (json_any w.heap.size n (L.map (Value.int .u8)) s w1 hn hs hxl (cells_of_block hg1) hs1).mono ?_
  rintro e w2 ⟨got, m1, rfl, hown2, hb2⟩
  rw [out_cells] at hown2
  have hg2 : Hid (w2.heap[w.heap.size]? = some (.cells (L.map (Value.int .u8)).toArray 5 (0, 0))) := (hb2.block _ hs1).trans hg1
  have hB2 : Below w.heap.size w w2 := hB1.trans (hb2.mono hB1.size)
  have hs2 : w.heap.size < w2.heap.size := by have := hb2.size; omega
  clear hg1 hb2 hB1 hs1
  go_wp2_with (first | (refine copy_full _ rfl (.tmp 28) (.tmp 29) rfl w2.heap.size n rfl a0 cap rfl (heap_alloc_new _ _) L hL (fun h0 => HK.out (hB2.alloc hB2.size _) h0) ?_; intro w3 hg3 hb3))
  have hs3 : w2.heap.size < w3.heap.size := by have := hb3.size; simp at this; omega
  have hb3' : Below w2.heap.size w2 w3 := ((Below.refl _ _).alloc (Nat.le_refl _) _).trans hb3
  clear hb3
  refine (model_any w2.heap.size n (L.map (Value.int .u8)) s w3 hn hs hxl (cells_of_block hg3) hs3).mono ?_
  rintro e w4 ⟨want, m2, rfl, hown4, hb4⟩
  rw [out_cells] at hown4
  have hb24 : Below w2.heap.size w2 w4 := hb3'.trans (hb4.mono hb3'.size)
  have hB4 : Below w.heap.size w w4 := hB2.trans (hb24.mono hB2.size)
  have hg4 : w4.heap[w.heap.size]? = some (.cells (L.map (Value.int .u8)).toArray 5 (0, 0)) := (hb24.block _ hs2).trans hg2.out
  have hgot := ownsRow_below hown2 hb24 (Nat.le_refl _)
  have q1 := conv_own (own_of_block hg4 hL hnl)
  have q2 := HC.out _ hB4
  have q3 := conv_own hgot
  have q4 := conv_own hown4
  clear hg3 hg4 hg2 hb4 hb24 hb3' hown2 hown4 hgot hB2 hs2 hs3 hmk
  have E1 := hide1 (equal_any _ _ _ _ _ q1 q2 rfl)
  have E2 := hide1 (equal_any _ _ _ _ _ q3 q4 rfl)
  clear q1 q2 q3 q4
  go_wp2_with fail
  refine (E1.out).mono ?_
  rintro e w5 ⟨rfl, rfl⟩
  go_wp2_with fail
  refine (E2.out).mono ?_
  rintro e w6 ⟨rfl, rfl⟩
  go_wp2_with fail
  go_ret
  exact ⟨rfl, hB4⟩

set_option maxHeartbeats 400000 in
theorem amodel_long (a0 : Option Addr) (n cap : Nat) (s : ByteArray) (w : World) (h : 4096 < n ∨ 4096 < s.size) :
    Calls Yba.prog 3 #[.slice a0 n cap, .string s] w fun e w' => e = .returned (.bool true) ∧ Below w.heap.size w w' := by
  by_cases h1 : 4096 < n
  · have g1 : (4096 : Int) < (n : Int) := by omega
    go_enter Yba.func3, Yba.ntmps3
    go_wp2
    go_ret
    exact ⟨rfl, Below.refl _ _⟩
  · have g1 : ¬ (4096 : Int) < (n : Int) := by omega
    have g2 : (4096 : Int) < (s.size : Int) := by omega
    go_enter Yba.func3, Yba.ntmps3
    go_wp2
    go_ret
    exact ⟨rfl, Below.refl _ _⟩
end Go.Proofs.Ybulkbwfu
