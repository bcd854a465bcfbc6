/-
  'flow.New' (function 15): what a fresh network is in memory, and the walk of New.
-/
import Derived.Test.YbulkbwfgProg
import Derived.WalkKit
import Derived.WalkSpells
import Derived.WalkLawsBesides
import Derived.Deep.OwnRows
import Derived.Deep.LoopGhost
import Derived.Deep.Cut
import Derived.Deep.CutRange
import Derived.Deep.DeepCutAuto
import Derived.Deep.Light
namespace Go.Proofs.Ybulkbwfg
open Go.RowKit Go.Proofs

theorem Yba.info3 : (Yba.prog.info? 3).map (fun i => (i.zero, i.size, i.bytes)) = some (some (.int .i64 0), 1, 8) := by kernel_rfl
def zArc : Value := .agg #[.int .i64 0, .int .i64 0, .int .i64 0, .int .i64 0]
theorem Yba.info104 : (Yba.prog.info? 104).map (fun i => (i.zero, i.size, i.bytes)) = some (some zArc, 4, 32) := by kernel_rfl

def zeros (n : Nat) : Array Value := madeCells #[.int .i64 0] n
def arcCells (n : Nat) : Array Value := madeCells zArc.cells (n * 4)

theorem mk_row (n : Nat) (hn : n ≤ 1000000) (w : World) :
    (Instr.makeSlice 68 (.int .i64 (n : Int)) (.int .i64 (n : Int))).run Yba.prog w = .ok (.slice (some ⟨w.heap.size, 0, none⟩) n n) (w.alloc (.cells (zeros n) 3)) :=
  run_make_row' (P := Yba.prog) 68 3 (.int .i64 0) 8 Yba.underlying68 Yba.info3 rfl .i64 .i64 n (by omega) (by omega) w

theorem mk_room (n : Nat) (hn : n ≤ 1000000) (w : World) :
    (Instr.makeSlice 68 (.int .i64 0) (.int .i64 (n : Int))).run Yba.prog w = .ok (.slice (some ⟨w.heap.size, 0, none⟩) 0 n) (w.alloc (.cells (zeros n) 3)) := by
  obtain ⟨i, hi, hz, hs, hb⟩ := info_parts Yba.info3
  have := run_make (P := Yba.prog) w 68 3 i _ Yba.underlying68 hi hz .i64 .i64 0 (n : Int) (Int.le_refl _) (by omega) (by rw [hb]; omega) (by omega)
  simpa [hs, zeros, Value.cells] using this

theorem mk_arcs (c : Int) (n : Nat) (hc : c = (n : Int)) (hn : n ≤ 1000000) (w : World) :
    (Instr.makeSlice 67 (.int .i64 0) (.int .i64 c)).run Yba.prog w = .ok (.slice (some ⟨w.heap.size, 0, none⟩) 0 n) (w.alloc (.cells (arcCells n) 104)) := by
  subst hc
  obtain ⟨i, hi, hz, hs, hb⟩ := info_parts Yba.info104
  have := run_make (P := Yba.prog) w 67 104 i _ Yba.underlying67 hi hz .i64 .i64 0 (n : Int) (Int.le_refl _) (by omega) (by rw [hb]; omega) (by omega)
  simpa [hs, arcCells] using this

/-- A NETWORK OF v VERTICES, ROOM FOR e EDGES, at block g, its 'first' at block b1 holding F, its 'excess' at block b3 holding X; all these blocks from B on, no two the same. -/
structure Net (B : Nat) (w : World) (v e g b1 b3 : Nat) (F X : Nat → Value) : Prop where
  top : ∃ b0 b2, w.heap[g]? = some (.cells #[.slice (some ⟨b0, 0, none⟩) 0 (2 * (e + v)), .slice (some ⟨b1, 0, none⟩) v v, .slice (some ⟨b2, 0, none⟩) 0 e, .slice (some ⟨b3, 0, none⟩) v v] 70 (0, 0))
  r1 : w.rowIs b1 3 v F
  r3 : w.rowIs b3 3 v X
  hg : B ≤ g
  h1 : B ≤ b1
  h3 : B ≤ b3
  n13 : b1 ≠ b3
  ng1 : g ≠ b1
  ng3 : g ≠ b3

theorem rowIs_of_zeros {w : World} {b n : Nat} (h : w.heap[b]? = some (.cells (zeros n) 3 (0, 0))) : w.rowIs b 3 n (fun _ => .int .i64 0) :=
  ⟨_, h, size_madeCells _ _, fun i hi => by simp [zeros, madeCells, hi, Nat.mod_one]⟩

theorem Net.mk' {B : Nat} {w : World} {v e g b0 b1 b2 b3 : Nat}
    (top : w.heap[g]? = some (.cells #[.slice (some ⟨b0, 0, none⟩) 0 (2 * (e + v)), .slice (some ⟨b1, 0, none⟩) v v, .slice (some ⟨b2, 0, none⟩) 0 e, .slice (some ⟨b3, 0, none⟩) v v] 70 (0, 0)))
    (r1 : w.heap[b1]? = some (.cells (zeros v) 3 (0, 0))) (r3 : w.heap[b3]? = some (.cells (zeros v) 3 (0, 0)))
    (hb : B ≤ g ∧ B ≤ b1 ∧ B ≤ b3 ∧ b1 ≠ b3 ∧ g ≠ b1 ∧ g ≠ b3) : Net B w v e g b1 b3 (fun _ => .int .i64 0) (fun _ => .int .i64 0) :=
  ⟨⟨b0, b2, top⟩, rowIs_of_zeros r1, rowIs_of_zeros r3, hb.1, hb.2.1, hb.2.2.1, hb.2.2.2.1, hb.2.2.2.2.1, hb.2.2.2.2.2⟩

section
variable {B : Nat} {w : World} {v e g b1 b3 : Nat} {F X : Nat → Value}
theorem Net.c0 (h : Net B w v e g b1 b3 F X) : ∃ b0, w.cell? ⟨g, 0, none⟩ = some (.slice (some ⟨b0, 0, none⟩) 0 (2 * (e + v))) := by
  obtain ⟨b0, b2, ht⟩ := h.top
  exact ⟨b0, by simp [World.cell?, ht]⟩
theorem Net.c1 (h : Net B w v e g b1 b3 F X) : w.cell? ⟨g, 1, none⟩ = some (.slice (some ⟨b1, 0, none⟩) v v) := by
  obtain ⟨b0, b2, ht⟩ := h.top
  simp [World.cell?, ht]
theorem Net.c2 (h : Net B w v e g b1 b3 F X) : ∃ b2, w.cell? ⟨g, 2, none⟩ = some (.slice (some ⟨b2, 0, none⟩) 0 e) := by
  obtain ⟨b0, b2, ht⟩ := h.top
  exact ⟨b2, by simp [World.cell?, ht]⟩
theorem Net.c3 (h : Net B w v e g b1 b3 F X) : w.cell? ⟨g, 3, none⟩ = some (.slice (some ⟨b3, 0, none⟩) v v) := by
  obtain ⟨b0, b2, ht⟩ := h.top
  simp [World.cell?, ht]
theorem Net.lt (h : Net B w v e g b1 b3 F X) : g < w.heap.size := by
  obtain ⟨b0, b2, ht⟩ := h.top
  obtain ⟨hlt, _⟩ := Array.getElem?_eq_some_iff.1 ht
  exact hlt
theorem Net.of_blocks {w' : World} (h : Net B w v e g b1 b3 F X) (eq : ∀ k, k < w.heap.size → w'.heap[k]? = w.heap[k]?) : Net B w' v e g b1 b3 F X := by
  obtain ⟨b0, b2, ht⟩ := h.top
  exact ⟨⟨b0, b2, (eq g h.lt).trans ht⟩, h.r1.of_block (eq _ h.r1.lt), h.r3.of_block (eq _ h.r3.lt), h.hg, h.h1, h.h3, h.n13, h.ng1, h.ng3⟩
theorem heap_setCell_ne (w : World) (a : Addr) (u : Value) (k : Nat) (h : k ≠ a.block) : (w.setCell a u).heap[k]? = w.heap[k]? := Below.heap_setCell w a u k h
/-- A store into another block. -/
theorem Net.setOther (h : Net B w v e g b1 b3 F X) (a : Addr) (u : Value) (hg : g ≠ a.block) (h1 : b1 ≠ a.block) (h3 : b3 ≠ a.block) : Net B (w.setCell a u) v e g b1 b3 F X := by
  obtain ⟨b0, b2, ht⟩ := h.top
  exact ⟨⟨b0, b2, (heap_setCell_ne _ _ _ _ hg).trans ht⟩, h.r1.setOther h1 u, h.r3.setOther h3 u, h.hg, h.h1, h.h3, h.n13, h.ng1, h.ng3⟩
/-- A store into 'first'. -/
theorem Net.set1 (h : Net B w v e g b1 b3 F X) (i : Nat) (u : Value) : Net B (w.setCell ⟨b1, i, none⟩ u) v e g b1 b3 (fun j => if j = i then u else F j) X := by
  obtain ⟨b0, b2, ht⟩ := h.top
  exact ⟨⟨b0, b2, (heap_setCell_ne _ _ _ _ h.ng1).trans ht⟩, h.r1.set i u, h.r3.setOther (fun e => h.n13 e.symm) u, h.hg, h.h1, h.h3, h.n13, h.ng1, h.ng3⟩
/-- A store into 'excess'. -/
theorem Net.set3 (h : Net B w v e g b1 b3 F X) (i : Nat) (u : Value) : Net B (w.setCell ⟨b3, i, none⟩ u) v e g b1 b3 F (fun j => if j = i then u else X j) := by
  obtain ⟨b0, b2, ht⟩ := h.top
  exact ⟨⟨b0, b2, (heap_setCell_ne _ _ _ _ h.ng3).trans ht⟩, h.r1.setOther h.n13 u, h.r3.set i u, h.hg, h.h1, h.h3, h.n13, h.ng1, h.ng3⟩
theorem Net.congr {F' X' : Nat → Value} (h : Net B w v e g b1 b3 F X) (hF : ∀ i, i < v → F i = F' i) (hX : ∀ i, i < v → X i = X' i) : Net B w v e g b1 b3 F' X' :=
  ⟨h.top, h.r1.congr hF, h.r3.congr hX, h.hg, h.h1, h.h3, h.n13, h.ng1, h.ng3⟩
end

def zeroF : Nat → Value := fun _ => .int .i64 0
def lessF : Nat → Value := fun _ => .int .i64 (-1)
/-- 'first' when k cells are set. -/
def partF (k : Nat) : Nat → Value := fun j => if j < k then .int .i64 (-1) else .int .i64 0

/-- What New's composite literal leaves. -/
def Fresh (w wc : World) (v e : Nat) (s : Value) : Prop := ∃ g b1 b3, s = .pointer (some ⟨g, 0, none⟩) ∧ Net w.heap.size wc v e g b1 b3 zeroF zeroF ∧ Below w.heap.size w wc

theorem below4 (w : World) (o1 o2 o3 o4 o5 : Obj) : Below w.heap.size w (((((w.alloc o1).alloc o2).alloc o3).alloc o4).alloc o5).drew :=
  (((((((Below.refl _ _).alloc (Nat.le_refl _) o1).alloc (by simp) o2).alloc (by simp; omega) o3).alloc (by simp; omega) o4).alloc (by simp; omega) o5)).drew

section
variable (w : World) (o1 o2 o3 o4 o5 : Obj)
theorem five1 : (((((w.alloc o1).alloc o2).alloc o3).alloc o4).alloc o5).drew.heap[w.heap.size]? = some o1 := by
  show (((((w.heap.push o1).push o2).push o3).push o4).push o5)[w.heap.size]? = _
  rw [Array.getElem?_push, if_neg (by simp only [Array.size_push]; omega), Array.getElem?_push, if_neg (by simp only [Array.size_push]; omega), Array.getElem?_push, if_neg (by simp only [Array.size_push]; omega), Array.getElem?_push, if_neg (by simp only [Array.size_push]; omega), Array.getElem?_push, if_pos rfl]
theorem five2 : (((((w.alloc o1).alloc o2).alloc o3).alloc o4).alloc o5).drew.heap[w.heap.size + 1]? = some o2 := by
  show (((((w.heap.push o1).push o2).push o3).push o4).push o5)[w.heap.size + 1]? = _
  rw [Array.getElem?_push, if_neg (by simp only [Array.size_push]; omega), Array.getElem?_push, if_neg (by simp only [Array.size_push]; omega), Array.getElem?_push, if_neg (by simp only [Array.size_push]; omega), Array.getElem?_push, if_pos (by simp only [Array.size_push])]
theorem five3 : (((((w.alloc o1).alloc o2).alloc o3).alloc o4).alloc o5).drew.heap[w.heap.size + 1 + 1]? = some o3 := by
  show (((((w.heap.push o1).push o2).push o3).push o4).push o5)[w.heap.size + 1 + 1]? = _
  rw [Array.getElem?_push, if_neg (by simp only [Array.size_push]; omega), Array.getElem?_push, if_neg (by simp only [Array.size_push]; omega), Array.getElem?_push, if_pos (by simp only [Array.size_push])]
theorem five4 : (((((w.alloc o1).alloc o2).alloc o3).alloc o4).alloc o5).drew.heap[w.heap.size + 1 + 1 + 1]? = some o4 := by
  show (((((w.heap.push o1).push o2).push o3).push o4).push o5)[w.heap.size + 1 + 1 + 1]? = _
  rw [Array.getElem?_push, if_neg (by simp only [Array.size_push]; omega), Array.getElem?_push, if_pos (by simp only [Array.size_push])]
theorem five5 : (((((w.alloc o1).alloc o2).alloc o3).alloc o4).alloc o5).drew.heap[w.heap.size + 1 + 1 + 1 + 1]? = some o5 := by
  show (((((w.heap.push o1).push o2).push o3).push o4).push o5)[w.heap.size + 1 + 1 + 1 + 1]? = _
  rw [Array.getElem?_push, if_pos (by simp only [Array.size_push])]
end

theorem net_first {B : Nat} {w : World} {v e g b1 b3 i : Nat} (h : Net B w v e g b1 b3 (partF i) zeroF) : Net B (w.setCell ⟨b1, i, none⟩ (.int .i64 (-1))) v e g b1 b3 (partF (i + 1)) zeroF :=
  (h.set1 i _).congr (fun j _ => by
    unfold partF
    by_cases e : j = i
    · subst e; simp
    · rw [if_neg e]
      by_cases hlt : j < i
      · rw [if_pos hlt, if_pos (by omega)]
      · rw [if_neg hlt, if_neg (by omega)]) (fun _ _ => rfl)

set_option maxHeartbeats 800000 in
theorem new_any (v e : Nat) (hv : v ≤ 65535) (he : e ≤ 65535) (w : World) :
    Calls Yba.prog 15 #[.int .i64 v, .int .i64 e] w fun ex w' => ∃ g b1 b3, ex = .returned (.pointer (some ⟨g, 0, none⟩)) ∧ Net w.heap.size w' v e g b1 b3 lessF zeroF ∧ Below w.heap.size w w' := by
  have k1 := mk_row v (by omega)
  have k2 := mk_room e (by omega)
  have k3 := mk_arcs (2 * ((e : Int) + (v : Int))) (2 * (e + v)) (by omega) (by omega)
  go_enter Yba.func15, Yba.ntmps15
  go_upto_region 1 with fail
  go_cut [5] (fun s5 wc => Fresh w wc v e s5)
  case first =>
    go_region
    all_goals (go_wp2_with fail; go_meet)
    all_goals
      go_light
      exact ⟨_, _, _, rfl, Net.mk' (five5 w _ _ _ _ _) (by first | exact five1 w _ _ _ _ _ | exact five2 w _ _ _ _ _ | exact five3 w _ _ _ _ _ | exact five4 w _ _ _ _ _) (by first | exact five1 w _ _ _ _ _ | exact five2 w _ _ _ _ _ | exact five3 w _ _ _ _ _ | exact five4 w _ _ _ _ _) (by omega), below4 _ _ _ _ _ _⟩
  case rest =>
    obtain ⟨g, b1, b3, rfl, hN, hB⟩ := hcut
    clear k1 k2 k3
    have c1 := hN.c1
    go_wp2
    clear c1
    go_loopg [25] v (fun k s wr => ∃ i : Nat, i ≤ v ∧ k = v - i ∧ s = .int .i64 i ∧ Net w.heap.size wr v e g b1 b3 (partF i) zeroF ∧ Below w.heap.size w wr)
    case atStart => exact ⟨0, Nat.zero_le _, rfl, rfl, hN.congr (fun _ _ => by simp [partF, zeroF]) (fun _ _ => rfl), hB⟩
    case round =>
      obtain ⟨i, hi, rfl, rfl, hN, hB⟩ := hrel
      by_cases hlt : i < v
      · have c1 := hN.c1
        have f1 := hN.r1.frozen i
        have x1 := hN.r1.cell hlt
        go_wp2
        go_roundg (v - (i + 1))
        case measure => omega
        case rel => exact ⟨i + 1, by omega, rfl, by go_num, net_first hN, hB.setCell hN.h1 _⟩
      · go_wp2
        go_ret
        exact ⟨g, b1, b3, rfl, hN.congr (fun j hj => by unfold partF lessF; rw [if_pos (by omega)]) (fun _ _ => rfl), hB⟩
end Go.Proofs.Ybulkbwfg
