/-
  Members of an 'object' in memory: what LawS3634BGrow's storage holds while it is built, and behind it.
-/
import Derived.Test.YbulkbwfuProg
import Derived.WalkKit
import Derived.WalkSpells
import Derived.WalkLawsBesides
import Derived.Deep.OwnRows
import Derived.Deep.LoopGhost
import Derived.Deep.DeepCutAuto
import Derived.Deep.Light
import Derived.Deep.RegionLaw
import Derived.Deep.RegionLawGrows
import Derived.Deep.QuietTactic
import Derived.BigQuiet
import Derived.Lib.ConvBytes
namespace Go.Proofs.Ybulkbwfu
open Go.RowKit Go.Proofs

def zMem : Value := .agg #[.slice none 0 0, .slice none 0 0, .slice none 0 0]
theorem Yba.info33 : (Yba.prog.info? 33).map (fun i => (i.zero, i.size, i.bytes)) = some (some zMem, 3, 72) := by kernel_rfl
def memZeros (n : Nat) : Array Value := madeCells zMem.cells (n * 3)
theorem mk_members (c : Int) (n : Nat) (hc : c = (n : Int)) (hn : n ≤ 1000000) (w : World) :
    (Instr.makeSlice 28 (.int .i64 c) (.int .i64 c)).run Yba.prog w = .ok (.slice (some ⟨w.heap.size, 0, none⟩) n n) (w.alloc (.cells (memZeros n) 33)) := by
  subst hc
  obtain ⟨i, hi, hz, hs, hb⟩ := info_parts Yba.info33
  have := run_make (P := Yba.prog) w 28 33 i _ Yba.underlying28 hi hz .i64 .i64 (n : Int) (n : Int) (by omega) (Int.le_refl _) (by rw [hb]; omega) (by omega)
  simpa [hs, memZeros] using this

/-- MEMBER j OF BLOCK F: its name reads as S, its value as the one byte c, its members as nil; neither lies in block F. -/
def Mem (w : World) (F j : Nat) (S : ByteArray) (c : Int) : Prop :=
  ∃ nb nc vb vc, w.cell? ⟨F, j * 3, none⟩ = some (.slice (some ⟨nb, 0, none⟩) S.size nc) ∧ w.cell? ⟨F, j * 3 + 1, none⟩ = some (.slice (some ⟨vb, 0, none⟩) 1 vc) ∧
    w.cell? ⟨F, j * 3 + 2, none⟩ = some (.slice none 0 0) ∧ (∀ t, t < S.size → w.cell? ⟨nb, t, none⟩ = some (.int .u8 (S.data.toList.getD t 0).toNat)) ∧
    w.cell? ⟨vb, 0, none⟩ = some (.int .u8 c) ∧ nb ≠ F ∧ vb ≠ F

/-- THE STORAGE AT BLOCK F, T members, the first k of them filled. -/
structure Built (w wr : World) (F T k : Nat) (NM : Nat → ByteArray) (C : Nat → Int) : Prop where
  below : Below w.heap.size w wr
  row : ∃ cur, wr.heap[F]? = some (.cells cur 33 (0, 0)) ∧ cur.size = T * 3
  done : ∀ j, j < k → Mem wr F j (NM j) (C j)
  rest : ∀ j, k ≤ j → j < T → wr.cell? ⟨F, j * 3 + 2, none⟩ = some (.slice none 0 0)
  hF : w.heap.size ≤ F

section
variable {w wr : World} {F T k : Nat} {NM : Nat → ByteArray} {C : Nat → Int}

theorem Built.lt (h : Built w wr F T k NM C) : F < wr.heap.size := by
  obtain ⟨cur, hc, _⟩ := h.row
  exact (Array.getElem?_eq_some_iff.1 hc).1

theorem Built.cellAt (h : Built w wr F T k NM C) (o : Nat) (ho : o < T * 3) : ∃ u, wr.cell? ⟨F, o, none⟩ = some u := by
  obtain ⟨cur, hc, hs⟩ := h.row
  exact ⟨cur[o]'(by omega), by simp [World.cell?, hc, show o < cur.size by omega]⟩

theorem Built.frozenAt (h : Built w wr F T k NM C) (o : Nat) : wr.frozen? ⟨F, o, none⟩ = false := by
  obtain ⟨cur, hc, hs⟩ := h.row
  simp [World.frozen?, hc]

/-- Where the names and values are those that the next members want. -/
theorem Built.congr {NM' : Nat → ByteArray} {C' : Nat → Int} (h : Built w wr F T k NM C) (h1 : ∀ j, j < k → NM j = NM' j) (h2 : ∀ j, j < k → C j = C' j) : Built w wr F T k NM' C' :=
  ⟨h.below, h.row, fun j hj => by rw [← h1 j hj, ← h2 j hj]; exact h.done j hj, h.rest, h.hF⟩
end

/-- A cell kept. -/
theorem Mem.kept {w w' : World} {F j : Nat} {S : ByteArray} {c : Int} (h : Mem w F j S c) (hk : ∀ a v, w.cell? a = some v → (a.block = F → a.off < j * 3 + 3 → j * 3 ≤ a.off → True) → (a.block ≠ F ∨ (j * 3 ≤ a.off ∧ a.off < j * 3 + 3)) → w'.cell? a = some v) : Mem w' F j S c := by
  obtain ⟨nb, nc, vb, vc, h1, h2, h3, h4, h5, h6, h7⟩ := h
  exact ⟨nb, nc, vb, vc, hk _ _ h1 (fun _ _ _ => trivial) (.inr ⟨by simp, by simp⟩), hk _ _ h2 (fun _ _ _ => trivial) (.inr ⟨by simp, by simp⟩), hk _ _ h3 (fun _ _ _ => trivial) (.inr ⟨by simp, by simp⟩),
    fun t ht => hk _ _ (h4 t ht) (fun _ _ _ => trivial) (.inl h6), hk _ _ h5 (fun _ _ _ => trivial) (.inl h7), h6, h7⟩

theorem Mem.below {w w' : World} {F j B : Nat} {S : ByteArray} {c : Int} (h : Mem w F j S c) (hb : Below B w w') (hB : w.heap.size ≤ B) : Mem w' F j S c :=
  h.kept fun a v hv _ _ => by
    rw [hb.cell (Nat.lt_of_lt_of_le (World.block_lt_of_cell? _ _ hv) hB)]
    exact hv

/-- What one round of the building leaves. -/
def fillW (wr : World) (F j : Nat) (S : ByteArray) (c : Int) : World :=
  ((((Lib.bytesWorld wr 5 S).setCell ⟨F, j * 3, none⟩ (.slice (some ⟨wr.heap.size, 0, none⟩) S.size (grownCap wr S.size 0 5))).setCell ⟨F, j * 3 + 1, none⟩ (.slice (some ⟨wr.heap.size + 1, 0, none⟩) 1 1)).alloc
    (.cells #[.int .u8 c] 5))

section
variable {wr : World} {F j : Nat} {S : ByteArray} {c : Int}

theorem fill_size : (fillW wr F j S c).heap.size = wr.heap.size + 2 := by
  unfold fillW
  rw [World.size_alloc]
  simp [World.setCell, Lib.bytesWorld_size]

theorem fill_block (k : Nat) (hk : k < wr.heap.size) (hF : k ≠ F) : (fillW wr F j S c).heap[k]? = wr.heap[k]? := by
  unfold fillW
  rw [Below.heap_alloc _ _ _ (by simp [World.setCell, Lib.bytesWorld_size]; omega), Below.heap_setCell _ _ _ _ hF, Below.heap_setCell _ _ _ _ hF, Lib.bytesWorld_at_old _ _ _ _ hk]

theorem fill_cell (a : Addr) (ha : a.block < wr.heap.size) (hF : a.block = F → a.off ≠ j * 3 ∧ a.off ≠ j * 3 + 1) : (fillW wr F j S c).cell? a = wr.cell? a := by
  unfold fillW
  rw [World.cell?_alloc_lt _ _ _ (by simp [World.setCell, Lib.bytesWorld_size]; omega), World.cell?_setCell_other _ _ _ _ (fun e => by subst e; exact (hF rfl).2 rfl), World.cell?_setCell_other _ _ _ _ (fun e => by subst e; exact (hF rfl).1 rfl),
    Lib.bytesWorld_old _ _ _ _ ha]

theorem fill_row {cur : Array Value} {T : Nat} (hF : F < wr.heap.size) (h : wr.heap[F]? = some (.cells cur 33 (0, 0))) (hs : cur.size = T * 3) : ∃ cur', (fillW wr F j S c).heap[F]? = some (.cells cur' 33 (0, 0)) ∧ cur'.size = T * 3 := by
  unfold fillW
  rw [Below.heap_alloc _ _ _ (by simp [World.setCell, Lib.bytesWorld_size]; omega)]
  refine ⟨(cur.setIfInBounds (j * 3) (.slice (some ⟨wr.heap.size, 0, none⟩) S.size (grownCap wr S.size 0 5))).setIfInBounds (j * 3 + 1) (.slice (some ⟨wr.heap.size + 1, 0, none⟩) 1 1), ?_, by simpa using hs⟩
  have := Lib.bytesWorld_at_old wr 5 S F hF
  simp [World.setCell, Array.getElem?_modify, this, h]

theorem fill_mem (hF : F < wr.heap.size) (h0 : ∃ u, wr.cell? ⟨F, j * 3, none⟩ = some u) (h1 : ∃ u, wr.cell? ⟨F, j * 3 + 1, none⟩ = some u) (h2 : wr.cell? ⟨F, j * 3 + 2, none⟩ = some (.slice none 0 0)) : Mem (fillW wr F j S c) F j S c := by
  obtain ⟨u0, h0⟩ := h0
  obtain ⟨u1, h1⟩ := h1
  have hsz := Lib.bytesWorld_size wr 5 S
  refine ⟨wr.heap.size, grownCap wr S.size 0 5, wr.heap.size + 1, 1, ?_, ?_, ?_, fun t ht => ?_, ?_, by omega, by omega⟩
  · unfold fillW
    rw [World.cell?_alloc_lt _ _ _ (by simp [World.setCell, hsz]; omega), World.cell?_setCell_other _ _ _ _ (fun e => by have := congrArg Addr.off e; simp at this)]
    exact World.cell?_setCell_same _ _ _ (by rw [Lib.bytesWorld_old _ _ _ _ hF]; exact h0)
  · unfold fillW
    rw [World.cell?_alloc_lt _ _ _ (by simp [World.setCell, hsz]; omega)]
    exact World.cell?_setCell_same _ _ _ (by rw [World.cell?_setCell_other _ _ _ _ (fun e => by have := congrArg Addr.off e; simp at this), Lib.bytesWorld_old _ _ _ _ hF]; exact h1)
  · rw [fill_cell _ hF (fun _ => ⟨by simp, by simp⟩)]
    exact h2
  · unfold fillW
    rw [World.cell?_alloc_lt _ _ _ (by simp [World.setCell, hsz]), World.cell?_setCell_other _ _ _ _ (fun e => by have := congrArg Addr.block e; simp at this; omega), World.cell?_setCell_other _ _ _ _ (fun e => by have := congrArg Addr.block e; simp at this; omega)]
    exact Lib.bytesWorld_cell wr 5 S t ht
  · unfold fillW
    rw [World.cell?_alloc_at _ _ _ _ (by simp [World.setCell, hsz])]
    rfl
end

theorem built_step {w wr : World} {F T k : Nat} {NM : Nat → ByteArray} {C : Nat → Int} (h : Built w wr F T k NM C) (hk : k < T) {S : ByteArray} {c : Int} (hS : S = NM k) (hc : c = C k) : Built w (fillW wr F k S c) F T (k + 1) NM C := by
  subst hS
  subst hc
  have hlt := h.lt
  refine ⟨⟨?_, ?_, ?_, ?_, ?_⟩, ?_, ?_, ?_, h.hF⟩
  · exact h.below.os
  · exact h.below.tape
  · exact h.below.output
  · rw [fill_size]; have := h.below.size; omega
  · intro i hi
    have := h.hF
    have := h.below.size
    rw [fill_block i (by omega) (by omega)]
    exact h.below.block i hi
  · obtain ⟨cur, hc, hs⟩ := h.row
    exact fill_row hlt hc hs
  · intro j hj
    by_cases e : j = k
    · subst e
      exact fill_mem hlt (h.cellAt _ (by omega)) (h.cellAt _ (by omega)) (h.rest j (Nat.le_refl _) hk)
    · refine (h.done j (by omega)).kept fun a v hv _ hb => ?_
      rw [fill_cell a (World.block_lt_of_cell? _ _ hv) (fun e => by rcases hb with hb | hb <;> omega)]
      exact hv
  · intro j h1 h2
    rw [fill_cell _ hlt (fun _ => ⟨by simp; omega, by simp; omega⟩)]
    exact h.rest j (by omega) h2

theorem memZeros_at (n i : Nat) (h : i < n * 3) : (memZeros n)[i]? = some (.slice none 0 0) := by
  unfold memZeros madeCells
  simp [h, zMem, Value.cells]
  have : i % 3 < 3 := Nat.mod_lt _ (by omega)
  generalize i % 3 = k at this
  match k, this with
  | 0, _ => rfl
  | 1, _ => rfl
  | 2, _ => rfl

theorem built_start (w : World) (T : Nat) (NM : Nat → ByteArray) (C : Nat → Int) : Built w (w.alloc (.cells (memZeros T) 33)) w.heap.size T 0 NM C :=
  ⟨(Below.refl _ _).alloc (Nat.le_refl _) _, ⟨_, heap_alloc_new _ _, size_madeCells _ _⟩, fun j hj => absurd hj (by omega), fun j _ h2 => by
    rw [World.cell?_alloc_at _ _ _ _ rfl]
    exact memZeros_at T _ (by omega), Nat.le_refl _⟩

end Go.Proofs.Ybulkbwfu
