/-
  Rows of several cells an element; the pieces of a text; what LawS3634CKeep's memory holds.
-/
import Derived.Test.YbulkbwfuAParts
import Derived.Test.YbulkbwfuSpanWalk
import Derived.Deep.QuietTactic
import Derived.BigQuiet
import Derived.Deep.RegionLaw
namespace Go.Proofs.Ybulkbwfu
open Go.RowKit Go.Proofs

/-! ### Elements of eight cells, of two cells -/
def zArr : Value := .agg #[.int .i64 0, .int .i64 0, .bool false, .bool false, .string { data := #[] }, .int .i64 0, .int .i64 0, .int .i64 0]
def zSpan : Value := .agg #[.int .i64 0, .int .i64 0]
theorem Yba.info53 : (Yba.prog.info? 53).map (fun i => (i.zero, i.size, i.bytes)) = some (some zArr, 8, 64) := by kernel_rfl
theorem Yba.info48 : (Yba.prog.info? 48).map (fun i => (i.zero, i.size, i.bytes)) = some (some zSpan, 2, 16) := by kernel_rfl

def rows8 (f : Nat → Nat → Value) : Nat → Value := fun x => f (x / 8) (x % 8)
def rows2 (f : Nat → Nat → Value) : Nat → Value := fun x => f (x / 2) (x % 2)
theorem rows8_at (f : Nat → Nat → Value) (i c : Nat) (hc : c < 8) : rows8 f (i * 8 + c) = f i c := by
  unfold rows8
  rw [show (i * 8 + c) / 8 = i by omega, show (i * 8 + c) % 8 = c by omega]
theorem rows2_at (f : Nat → Nat → Value) (i c : Nat) (hc : c < 2) : rows2 f (i * 2 + c) = f i c := by
  unfold rows2
  rw [show (i * 2 + c) / 2 = i by omega, show (i * 2 + c) % 2 = c by omega]

theorem row8_cell {w : World} {M k : Nat} {t : TypeId} {f : Nat → Nat → Value} (h : w.rowIs M t (k * 8) (rows8 f)) (i c : Nat) (hi : i < k) (hc : c < 8) : w.cell? ⟨M, i * 8 + c, none⟩ = some (f i c) := by
  rw [h.cell (show i * 8 + c < k * 8 by omega), rows8_at f i c hc]
theorem row2_cell {w : World} {M k : Nat} {t : TypeId} {f : Nat → Nat → Value} (h : w.rowIs M t (k * 2) (rows2 f)) (i c : Nat) (hi : i < k) (hc : c < 2) : w.cell? ⟨M, i * 2 + c, none⟩ = some (f i c) := by
  rw [h.cell (show i * 2 + c < k * 2 by omega), rows2_at f i c hc]

/-- One element of eight cells is written. -/
theorem row8_set {w : World} {M k : Nat} {t : TypeId} {f : Nat → Nat → Value} (h : w.rowIs M t (k * 8) (rows8 f)) (i : Nat) (g : Nat → Value) :
    ((((((((w.setCell ⟨M, i * 8, none⟩ (g 0)).setCell ⟨M, i * 8 + 1, none⟩ (g 1)).setCell ⟨M, i * 8 + 2, none⟩ (g 2)).setCell ⟨M, i * 8 + 3, none⟩ (g 3)).setCell ⟨M, i * 8 + 4, none⟩ (g 4)).setCell ⟨M, i * 8 + 5, none⟩ (g 5)).setCell ⟨M, i * 8 + 6, none⟩ (g 6)).setCell ⟨M, i * 8 + 7, none⟩ (g 7)).rowIs M t (k * 8)
      (rows8 fun j c => if j = i then g c else f j c) := by
  refine ((((((((h.set (i * 8) (g 0)).set (i * 8 + 1) (g 1)).set (i * 8 + 2) (g 2)).set (i * 8 + 3) (g 3)).set (i * 8 + 4) (g 4)).set (i * 8 + 5) (g 5)).set (i * 8 + 6) (g 6)).set (i * 8 + 7) (g 7)).congr fun x _ => ?_
  have hx := Nat.div_add_mod x 8
  have hm := Nat.mod_lt x (show 0 < 8 by omega)
  unfold rows8
  show _ = if x / 8 = i then g (x % 8) else f (x / 8) (x % 8)
  by_cases e : x / 8 = i
  · rw [if_pos e]
    generalize x % 8 = c at hx hm
    match c, hm with
    | 0, _ => rw [if_neg (by omega), if_neg (by omega), if_neg (by omega), if_neg (by omega), if_neg (by omega), if_neg (by omega), if_neg (by omega), if_pos (by omega)]
    | 1, _ => rw [if_neg (by omega), if_neg (by omega), if_neg (by omega), if_neg (by omega), if_neg (by omega), if_neg (by omega), if_pos (by omega)]
    | 2, _ => rw [if_neg (by omega), if_neg (by omega), if_neg (by omega), if_neg (by omega), if_neg (by omega), if_pos (by omega)]
    | 3, _ => rw [if_neg (by omega), if_neg (by omega), if_neg (by omega), if_neg (by omega), if_pos (by omega)]
    | 4, _ => rw [if_neg (by omega), if_neg (by omega), if_neg (by omega), if_pos (by omega)]
    | 5, _ => rw [if_neg (by omega), if_neg (by omega), if_pos (by omega)]
    | 6, _ => rw [if_neg (by omega), if_pos (by omega)]
    | 7, _ => rw [if_pos (by omega)]
  · rw [if_neg e, if_neg (by omega), if_neg (by omega), if_neg (by omega), if_neg (by omega), if_neg (by omega), if_neg (by omega), if_neg (by omega), if_neg (by omega)]

/-- One element of two cells is written. -/
theorem row2_set {w : World} {M k : Nat} {t : TypeId} {f : Nat → Nat → Value} (h : w.rowIs M t (k * 2) (rows2 f)) (i : Nat) (a b : Value) :
    ((w.setCell ⟨M, i * 2, none⟩ a).setCell ⟨M, i * 2 + 1, none⟩ b).rowIs M t (k * 2) (rows2 fun j c => if j = i then (if c = 0 then a else b) else f j c) := by
  refine ((h.set (i * 2) a).set (i * 2 + 1) b).congr fun x _ => ?_
  have hx := Nat.div_add_mod x 2
  have hm := Nat.mod_lt x (show 0 < 2 by omega)
  unfold rows2
  show _ = if x / 2 = i then (if x % 2 = 0 then a else b) else f (x / 2) (x % 2)
  by_cases e : x / 2 = i
  · rw [if_pos e]
    generalize x % 2 = c at hx hm
    match c, hm with
    | 0, _ => rw [if_neg (by omega), if_pos (by omega)]; rfl
    | 1, _ => rw [if_pos (by omega)]; rfl
  · rw [if_neg e, if_neg (by omega), if_neg (by omega)]

/-- The two text cells of one element of eight are written. -/
theorem row8_text {w : World} {M k : Nat} {t : TypeId} {f : Nat → Nat → Value} (h : w.rowIs M t (k * 8) (rows8 f)) (i : Nat) (a b : Value) :
    ((w.setCell ⟨M, i * 8 + 5, none⟩ a).setCell ⟨M, i * 8 + 6, none⟩ b).rowIs M t (k * 8) (rows8 fun j c => if j = i then (if c = 5 then a else if c = 6 then b else f j c) else f j c) := by
  refine ((h.set (i * 8 + 5) a).set (i * 8 + 6) b).congr fun x _ => ?_
  have hx := Nat.div_add_mod x 8
  have hm := Nat.mod_lt x (show 0 < 8 by omega)
  unfold rows8
  show _ = if x / 8 = i then (if x % 8 = 5 then a else if x % 8 = 6 then b else f (x / 8) (x % 8)) else f (x / 8) (x % 8)
  by_cases e : x / 8 = i
  · rw [if_pos e]
    by_cases h5 : x % 8 = 5
    · rw [if_neg (by omega), if_pos (by omega), if_pos h5]
    · by_cases h6 : x % 8 = 6
      · rw [if_pos (by omega), if_neg h5, if_pos h6]
      · rw [if_neg (by omega), if_neg (by omega), if_neg h5, if_neg h6]
  · rw [if_neg e, if_neg (by omega), if_neg (by omega)]

theorem row8_congr {w : World} {M k : Nat} {t : TypeId} {f g : Nat → Nat → Value} (h : w.rowIs M t (k * 8) (rows8 f)) (e : ∀ i c, i < k → c < 8 → f i c = g i c) : w.rowIs M t (k * 8) (rows8 g) :=
  h.congr fun x hx => e _ _ (by omega) (Nat.mod_lt _ (by omega))
theorem row2_congr {w : World} {M k : Nat} {t : TypeId} {f g : Nat → Nat → Value} (h : w.rowIs M t (k * 2) (rows2 f)) (e : ∀ i c, i < k → c < 2 → f i c = g i c) : w.rowIs M t (k * 2) (rows2 g) :=
  h.congr fun x hx => e _ _ (by omega) (Nat.mod_lt _ (by omega))

/-! ### make -/
def arrZeros (k : Nat) : Array Value := madeCells zArr.cells (k * 8)
def spanZeros (k : Nat) : Array Value := madeCells zSpan.cells (k * 2)
theorem mk_arrs (k : Nat) (hk : k ≤ 512) (w : World) :
    (Instr.makeSlice 40 (.int .i64 (k : Int)) (.int .i64 (k : Int))).run Yba.prog w = .ok (.slice (some ⟨w.heap.size, 0, none⟩) k k) (w.alloc (.cells (arrZeros k) 53)) := by
  obtain ⟨i, hi, hz, hs, hb⟩ := info_parts Yba.info53
  have := run_make (P := Yba.prog) w 40 53 i _ Yba.underlying40 hi hz .i64 .i64 (k : Int) (k : Int) (by omega) (Int.le_refl _) (by rw [hb]; omega) (by omega)
  simpa [hs, arrZeros] using this
theorem mk_spans (k : Nat) (hk : k ≤ 512) (w : World) :
    (Instr.makeSlice 43 (.int .i64 (k : Int)) (.int .i64 (k : Int))).run Yba.prog w = .ok (.slice (some ⟨w.heap.size, 0, none⟩) k k) (w.alloc (.cells (spanZeros k) 48)) := by
  obtain ⟨i, hi, hz, hs, hb⟩ := info_parts Yba.info48
  have := run_make (P := Yba.prog) w 43 48 i _ Yba.underlying43 hi hz .i64 .i64 (k : Int) (k : Int) (by omega) (Int.le_refl _) (by rw [hb]; omega) (by omega)
  simpa [hs, spanZeros] using this

/-! ### The pieces -/
/-- The messages' data: every field by its index. -/
structure Data where
  A : Nat → Nat
  B : Nat → Nat
  seq : Nat → Int
  ord : Nat → Int
  user : Nat → ByteArray
  fin : Nat → Bool

def Data.lo (D : Data) (n i : Nat) : Nat := loN n (D.A i) (D.B i)
def Data.hi (D : Data) (n i : Nat) : Nat := hiN n (D.A i) (D.B i)
/-- The text of message i. -/
def Data.piece (D : Data) (n : Nat) (L : List Int) (i : Nat) : List Int := (L.drop (D.lo n i)).take (D.hi n i - D.lo n i)
/-- The texts of the first j messages. -/
def Data.upto (D : Data) (n : Nat) (L : List Int) : Nat → List Int
  | 0 => []
  | j + 1 => D.upto n L j ++ D.piece n L j
def Data.pos (D : Data) (n : Nat) : Nat → Nat
  | 0 => 0
  | j + 1 => D.pos n j + (D.hi n j - D.lo n j)

theorem Data.piece_length (D : Data) {n : Nat} {L : List Int} (hL : L.length = n) (i : Nat) : (D.piece n L i).length = D.hi n i - D.lo n i := by
  have h1 := lo_le_hi n (D.A i) (D.B i)
  have h2 := hi_le n (D.A i) (D.B i)
  unfold Data.piece Data.lo Data.hi
  simp [hL]
  omega
theorem Data.upto_length (D : Data) {n : Nat} {L : List Int} (hL : L.length = n) : ∀ j, (D.upto n L j).length = D.pos n j
  | 0 => rfl
  | j + 1 => by rw [Data.upto, List.length_append, D.upto_length hL j, D.piece_length hL j]; rfl
theorem Data.pos_le (D : Data) (n : Nat) : ∀ j, D.pos n j ≤ j * n
  | 0 => by simp [Data.pos]
  | j + 1 => by
    have := D.pos_le n j
    have h2 := hi_le n (D.A j) (D.B j)
    unfold Data.pos Data.hi Data.lo
    rw [Nat.add_mul]
    omega
theorem Data.pos_mono (D : Data) (n j : Nat) : D.pos n j ≤ D.pos n (j + 1) := by
  show D.pos n j ≤ D.pos n j + _
  omega

/-- A message's cells, its text span given. -/
def Data.cell (D : Data) (T : Nat → Nat × Nat) (i c : Nat) : Value :=
  if c = 0 then .int .i64 (D.seq i) else if c = 1 then .int .i64 0 else if c = 2 then .bool false else if c = 3 then .bool (D.fin i) else if c = 4 then .string (D.user i)
  else if c = 5 then .int .i64 ((T i).1 : Int) else if c = 6 then .int .i64 ((T i).2 : Int) else .int .i64 (D.ord i)

/-- What a fresh element holds. -/
def zCell (c : Nat) : Value := if c = 2 then .bool false else if c = 3 then .bool false else if c = 4 then .string { data := #[] } else .int .i64 0

theorem arrZeros_row (w : World) (k : Nat) : (w.alloc (.cells (arrZeros k) 53)).rowIs w.heap.size 53 (k * 8) (rows8 fun _ c => zCell c) := by
  refine ⟨_, heap_alloc_new _ _, size_madeCells _ _, fun i hi => ?_⟩
  unfold arrZeros madeCells rows8
  simp [hi, zArr, Value.cells]
  have : i % 8 < 8 := Nat.mod_lt _ (by omega)
  generalize i % 8 = c at this
  match c, this with
  | 0, _ => rfl
  | 1, _ => rfl
  | 2, _ => rfl
  | 3, _ => rfl
  | 4, _ => rfl
  | 5, _ => rfl
  | 6, _ => rfl
  | 7, _ => rfl

theorem spanZeros_row (w : World) (k : Nat) : (w.alloc (.cells (spanZeros k) 48)).rowIs w.heap.size 48 (k * 2) (rows2 fun _ _ => .int .i64 0) := by
  refine ⟨_, heap_alloc_new _ _, size_madeCells _ _, fun i hi => ?_⟩
  unfold spanZeros madeCells rows2
  simp [hi, zSpan, Value.cells]
  have : i % 2 < 2 := Nat.mod_lt _ (by omega)
  generalize i % 2 = c at this
  match c, this with
  | 0, _ => rfl
  | 1, _ => rfl

/-- THE MEMORY OF THE LAW: the copy of the text at block O, the room at R, its messages at M, the spans at P. -/
structure Keep (w wr : World) (O R M P k : Nat) (L : List Int) (cl : Bool) (la fi : Int) (tx : Value) (F G : Nat → Nat → Value) : Prop where
  below : Below w.heap.size w wr
  old : wr.heap[O]? = some (.cells (L.map (Value.int .u8)).toArray 5 (0, 0))
  run : wr.heap[R]? = some (.cells #[.int .i64 1, .string { data := #[109] }, .slice (some ⟨M, 0, none⟩) k k, tx, .bool cl, .int .i64 la, .int .i64 fi] 42 (0, 0))
  msgs : wr.rowIs M 53 (k * 8) (rows8 F)
  spans : wr.rowIs P 48 (k * 2) (rows2 G)
  hO : w.heap.size ≤ O
  hOR : O < R
  hRM : R < M
  hMP : M < P

section
variable {w wr : World} {O R M P k : Nat} {L : List Int} {cl : Bool} {la fi : Int} {tx : Value} {F G : Nat → Nat → Value}

theorem Keep.lt (h : Keep w wr O R M P k L cl la fi tx F G) : P < wr.heap.size := h.spans.lt

theorem Keep.oldCell (h : Keep w wr O R M P k L cl la fi tx F G) (i : Nat) (hi : i < L.length) : wr.cell? ⟨O, i, none⟩ = some (.int .u8 (L.getD i 0)) := by
  simp [World.cell?, h.old, List.getD, hi]

theorem Keep.runCell (h : Keep w wr O R M P k L cl la fi tx F G) : wr.cell? ⟨R, 0, none⟩ = some (.int .i64 1) ∧ wr.cell? ⟨R, 1, none⟩ = some (.string { data := #[109] }) ∧ wr.cell? ⟨R, 2, none⟩ = some (.slice (some ⟨M, 0, none⟩) k k) ∧
    wr.cell? ⟨R, 3, none⟩ = some tx ∧ wr.cell? ⟨R, 4, none⟩ = some (.bool cl) ∧ wr.cell? ⟨R, 5, none⟩ = some (.int .i64 la) ∧ wr.cell? ⟨R, 6, none⟩ = some (.int .i64 fi) := by
  refine ⟨?_, ?_, ?_, ?_, ?_, ?_, ?_⟩ <;> simp [World.cell?, h.run]

theorem Keep.runFrozen (h : Keep w wr O R M P k L cl la fi tx F G) (o : Nat) : wr.frozen? ⟨R, o, none⟩ = false := by simp [World.frozen?, h.run]

/-- Whatever happens in blocks that are none of these. -/
theorem Keep.keep {wx : World} {B : Nat} (h : Keep w wr O R M P k L cl la fi tx F G) (hb : Below B wr wx) (hB : P < B) : Keep w wx O R M P k L cl la fi tx F G := by
  have h1 := h.hO
  have h2 := h.hOR
  have h3 := h.hRM
  have h4 := h.hMP
  exact ⟨h.below.trans (hb.mono (by omega)), (hb.block O (by omega)).trans h.old, (hb.block R (by omega)).trans h.run, h.msgs.of_block (hb.block M (by omega)), h.spans.of_block (hb.block P hB), h1, h2, h3, h4⟩

/-- The messages are turned. -/
theorem Keep.setMsgs {wx : World} {F' : Nat → Nat → Value} (h : Keep w wr O R M P k L cl la fi tx F G) (hm : wx.rowIs M 53 (k * 8) (rows8 F')) (hs : wr.heap.size ≤ wx.heap.size) (ho : wx.os = wr.os) (ht : wx.tape = wr.tape) (hp : wx.output = wr.output) (hb : ∀ b, b ≠ M → b < wr.heap.size → wx.heap[b]? = wr.heap[b]?) : Keep w wx O R M P k L cl la fi tx F' G := by
  have h1 := h.hO
  have h2 := h.hOR
  have h3 := h.hRM
  have h4 := h.hMP
  have h5 := h.lt
  have h6 := h.below.size
  exact ⟨⟨ho.trans h.below.os, ht.trans h.below.tape, hp.trans h.below.output, by omega, fun b hb' => (hb b (by omega) (by omega)).trans (h.below.block b hb')⟩, (hb O (by omega) (by omega)).trans h.old, (hb R (by omega) (by omega)).trans h.run, hm, h.spans.of_block (hb P (by omega) h5), h1, h2, h3, h4⟩

/-- The spans are turned. -/
theorem Keep.setSpans {wx : World} {G' : Nat → Nat → Value} (h : Keep w wr O R M P k L cl la fi tx F G) (hm : wx.rowIs P 48 (k * 2) (rows2 G')) (hs : wr.heap.size ≤ wx.heap.size) (ho : wx.os = wr.os) (ht : wx.tape = wr.tape) (hp : wx.output = wr.output) (hb : ∀ b, b ≠ P → b < wr.heap.size → wx.heap[b]? = wr.heap[b]?) : Keep w wx O R M P k L cl la fi tx F G' := by
  have h1 := h.hO
  have h2 := h.hOR
  have h3 := h.hRM
  have h4 := h.hMP
  have h5 := h.lt
  have h6 := h.below.size
  exact ⟨⟨ho.trans h.below.os, ht.trans h.below.tape, hp.trans h.below.output, by omega, fun b hb' => (hb b (by omega) (by omega)).trans (h.below.block b hb')⟩, (hb O (by omega) (by omega)).trans h.old, (hb R (by omega) (by omega)).trans h.run, h.msgs.of_block (hb M (by omega) (by omega)), hm, h1, h2, h3, h4⟩

theorem Keep.congr {F' G' : Nat → Nat → Value} (h : Keep w wr O R M P k L cl la fi tx F G) (hF : ∀ i c, i < k → c < 8 → F i c = F' i c) (hG : ∀ i c, i < k → c < 2 → G i c = G' i c) : Keep w wr O R M P k L cl la fi tx F' G' :=
  ⟨h.below, h.old, h.run, row8_congr h.msgs hF, row2_congr h.spans hG, h.hO, h.hOR, h.hRM, h.hMP⟩
end

end Go.Proofs.Ybulkbwfu
