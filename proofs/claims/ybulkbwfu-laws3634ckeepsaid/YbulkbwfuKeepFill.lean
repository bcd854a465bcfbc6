/-
  LawS3634CKeep's memory: the start, and one round of the first loop.
-/
import Derived.Test.YbulkbwfuKeepParts
namespace Go.Proofs.Ybulkbwfu
open Go.RowKit Go.Proofs

def spanOf (D : Data) (n i : Nat) : Nat × Nat := (D.lo n i, D.hi n i)
/-- Messages and spans when j of them are laid. -/
def fillF (D : Data) (n j : Nat) : Nat → Nat → Value := fun i c => if i < j then D.cell (spanOf D n) i c else zCell c
def spanV (D : Data) (n i c : Nat) : Value := if c = 0 then .int .i64 (D.lo n i : Int) else .int .i64 (D.hi n i : Int)
def fillG (D : Data) (n j : Nat) : Nat → Nat → Value := fun i c => if i < j then spanV D n i c else .int .i64 0

theorem keep_start {w w1 : World} {k n : Nat} {L : List Int} {cl : Bool} {la fi : Int} {D : Data} (hg : w1.heap[w.heap.size]? = some (.cells (L.map (Value.int .u8)).toArray 5 (0, 0))) (hb : Below w.heap.size w w1) (hs : w.heap.size < w1.heap.size) :
    Keep w (((w1.alloc (.cells #[.int .i64 1, .string { data := #[109] }, .slice (some ⟨w1.heap.size + 1, 0, none⟩) k k, .slice (some ⟨w.heap.size, 0, none⟩) n n, .bool cl, .int .i64 la, .int .i64 fi] 42)).alloc (.cells (arrZeros k) 53)).alloc (.cells (spanZeros k) 48))
      w.heap.size w1.heap.size (w1.heap.size + 1) (w1.heap.size + 1 + 1) k L cl la fi (.slice (some ⟨w.heap.size, 0, none⟩) n n) (fillF D n 0) (fillG D n 0) := by
  have e1 : ∀ o : Obj, (w1.alloc o).heap.size = w1.heap.size + 1 := fun o => World.size_alloc _ _
  refine ⟨((hb.alloc hb.size _).alloc (by simp; have := hb.size; omega) _).alloc (by simp; have := hb.size; omega) _, ?_, ?_, ?_, ?_, Nat.le_refl _, hs, by omega, by omega⟩
  · rw [Below.heap_alloc _ _ _ (by simp; omega), Below.heap_alloc _ _ _ (by simp; omega), Below.heap_alloc _ _ _ hs]
    exact hg
  · rw [Below.heap_alloc _ _ _ (by simp; omega), Below.heap_alloc _ _ _ (by simp)]
    exact heap_alloc_new _ _
  · have h := arrZeros_row (w1.alloc (.cells #[.int .i64 1, .string { data := #[109] }, .slice (some ⟨w1.heap.size + 1, 0, none⟩) k k, .slice (some ⟨w.heap.size, 0, none⟩) n n, .bool cl, .int .i64 la, .int .i64 fi] 42)) k
    rw [e1] at h
    exact row8_congr (h.alloc _) (fun i c _ _ => by simp [fillF])
  · have h := spanZeros_row ((w1.alloc (.cells #[.int .i64 1, .string { data := #[109] }, .slice (some ⟨w1.heap.size + 1, 0, none⟩) k k, .slice (some ⟨w.heap.size, 0, none⟩) n n, .bool cl, .int .i64 la, .int .i64 fi] 42)).alloc (.cells (arrZeros k) 53)) k
    rw [World.size_alloc, e1] at h
    exact row2_congr h (fun i c _ _ => by simp [fillG])

theorem below3 (w : World) (o1 o2 o3 : Obj) : Below w.heap.size w (((w.alloc o1).alloc o2).alloc o3) :=
  (((Below.refl _ _).alloc (Nat.le_refl _) _).alloc (by simp) _).alloc (by simp; omega) _

theorem heap_setCell_ne' (w : World) (a : Addr) (u : Value) (k : Nat) (h : k ≠ a.block) : (w.setCell a u).heap[k]? = w.heap[k]? := Below.heap_setCell w a u k h

theorem Keep.drew {w wr : World} {O R M P k : Nat} {L : List Int} {cl : Bool} {la fi : Int} {tx : Value} {F G : Nat → Nat → Value} (h : Keep w wr O R M P k L cl la fi tx F G) : Keep w wr.drew O R M P k L cl la fi tx F G :=
  h.keep (B := wr.heap.size) ((Below.refl _ _).drew) h.lt

theorem fillF_step (D : Data) (n j i c : Nat) (_hc : c < 8) : (if i = j then D.cell (spanOf D n) j c else fillF D n j i c) = fillF D n (j + 1) i c := by
  unfold fillF
  by_cases e : i = j
  · subst e
    rw [if_pos rfl, if_pos (by omega)]
  · rw [if_neg e]
    by_cases h : i < j
    · rw [if_pos h, if_pos (by omega)]
    · rw [if_neg h, if_neg (by omega)]
theorem fillG_step (D : Data) (n j i c : Nat) : (if i = j then spanV D n j c else fillG D n j i c) = fillG D n (j + 1) i c := by
  unfold fillG
  by_cases e : i = j
  · subst e
    rw [if_pos rfl, if_pos (by omega)]
  · rw [if_neg e]
    by_cases h : i < j
    · rw [if_pos h, if_pos (by omega)]
    · rw [if_neg h, if_neg (by omega)]

theorem size_setCell' (w : World) (a : Addr) (u : Value) : (w.setCell a u).heap.size = w.heap.size := by simp [World.setCell]

theorem os_setCell' (w : World) (a : Addr) (u : Value) : (w.setCell a u).os = w.os := rfl
theorem tape_setCell' (w : World) (a : Addr) (u : Value) : (w.setCell a u).tape = w.tape := rfl
theorem output_setCell' (w : World) (a : Addr) (u : Value) : (w.setCell a u).output = w.output := rfl

/-- A span is laid. -/
theorem Keep.laySpan {w wr : World} {O R M P k n j : Nat} {L : List Int} {cl : Bool} {la fi : Int} {tx : Value} {D : Data} {F : Nat → Nat → Value} (h : Keep w wr O R M P k L cl la fi tx F (fillG D n j)) :
    Keep w ((wr.setCell ⟨P, j * 2, none⟩ (.int .i64 (D.lo n j : Int))).setCell ⟨P, j * 2 + 1, none⟩ (.int .i64 (D.hi n j : Int))) O R M P k L cl la fi tx F (fillG D n (j + 1)) := by
  refine (h.setSpans (row2_set h.spans j _ _) ?_ ?_ ?_ ?_ ?_).congr (fun _ _ _ _ => rfl) (fun i c _ _ => fillG_step D n j i c)
  · rw [size_setCell', size_setCell']; exact Nat.le_refl _
  · simp only [os_setCell']
  · simp only [tape_setCell']
  · simp only [output_setCell']
  · intro b hb _
    rw [heap_setCell_ne' _ _ _ _ hb, heap_setCell_ne' _ _ _ _ hb]

/-- A message is laid. -/
theorem Keep.layMsg {w wr : World} {O R M P k j : Nat} {L : List Int} {cl : Bool} {la fi : Int} {tx : Value} {F F' G : Nat → Nat → Value} (h : Keep w wr O R M P k L cl la fi tx F G) (g : Nat → Value) (hF : ∀ i c, i < k → c < 8 → (if i = j then g c else F i c) = F' i c) :
    Keep w ((((((((wr.setCell ⟨M, j * 8, none⟩ (g 0)).setCell ⟨M, j * 8 + 1, none⟩ (g 1)).setCell ⟨M, j * 8 + 2, none⟩ (g 2)).setCell ⟨M, j * 8 + 3, none⟩ (g 3)).setCell ⟨M, j * 8 + 4, none⟩ (g 4)).setCell ⟨M, j * 8 + 5, none⟩ (g 5)).setCell ⟨M, j * 8 + 6, none⟩ (g 6)).setCell ⟨M, j * 8 + 7, none⟩ (g 7))
      O R M P k L cl la fi tx F' G := by
  refine (h.setMsgs (row8_set h.msgs j g) ?_ ?_ ?_ ?_ ?_).congr hF (fun _ _ _ _ => rfl)
  · rw [size_setCell', size_setCell', size_setCell', size_setCell', size_setCell', size_setCell', size_setCell', size_setCell']; exact Nat.le_refl _
  · simp only [os_setCell']
  · simp only [tape_setCell']
  · simp only [output_setCell']
  · intro b hb _
    rw [heap_setCell_ne' _ _ _ _ hb, heap_setCell_ne' _ _ _ _ hb, heap_setCell_ne' _ _ _ _ hb, heap_setCell_ne' _ _ _ _ hb, heap_setCell_ne' _ _ _ _ hb, heap_setCell_ne' _ _ _ _ hb, heap_setCell_ne' _ _ _ _ hb, heap_setCell_ne' _ _ _ _ hb]

/-- One round of the first loop. -/
theorem keep_fill {w wr : World} {O R M P k n j : Nat} {L : List Int} {cl : Bool} {la fi : Int} {tx : Value} {D : Data} (h : Keep w wr O R M P k L cl la fi tx (fillF D n j) (fillG D n j)) (o1 o2 o3 : Obj) :
    Keep w (((((((((((((wr.alloc o1).alloc o2).alloc o3).setCell ⟨P, j * 2, none⟩ (.int .i64 (loN n (D.A j) (D.B j)))).setCell ⟨P, j * 2 + 1, none⟩ (.int .i64 (hiN n (D.A j) (D.B j)))).setCell ⟨M, j * 8, none⟩ (.int .i64 (D.seq j))).setCell ⟨M, j * 8 + 1, none⟩ (.int .i64 0)).setCell
      ⟨M, j * 8 + 2, none⟩ (.bool false)).setCell ⟨M, j * 8 + 3, none⟩ (.bool (D.fin j))).setCell ⟨M, j * 8 + 4, none⟩ (.string (D.user j))).setCell ⟨M, j * 8 + 5, none⟩ (.int .i64 (loN n (D.A j) (D.B j)))).setCell ⟨M, j * 8 + 6, none⟩ (.int .i64 (hiN n (D.A j) (D.B j)))).setCell ⟨M, j * 8 + 7, none⟩ (.int .i64 (D.ord j))).drew
      O R M P k L cl la fi tx (fillF D n (j + 1)) (fillG D n (j + 1)) := by
  have h1 := (h.keep (below3 wr o1 o2 o3) h.lt).laySpan
  have e1 : ((D.lo n j : Nat) : Int) = (loN n (D.A j) (D.B j) : Int) := rfl
  have e2 : ((D.hi n j : Nat) : Int) = (hiN n (D.A j) (D.B j) : Int) := rfl
  rw [e1, e2] at h1
  generalize ((((wr.alloc o1).alloc o2).alloc o3).setCell ⟨P, j * 2, none⟩ (.int .i64 (loN n (D.A j) (D.B j)))).setCell ⟨P, j * 2 + 1, none⟩ (.int .i64 (hiN n (D.A j) (D.B j))) = W at h1 ⊢
  have h2 := h1.layMsg (j := j) (D.cell (spanOf D n) j) (fun i c _ hc => fillF_step D n j i c hc)
  exact h2.drew

end Go.Proofs.Ybulkbwfu
