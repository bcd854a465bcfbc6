/-
  The walks of '(*object).grow' (function 10): with room, and without.
-/
import Derived.Test.YbulkbwfuGrowParts
namespace Go.Proofs.Ybulkbwfu
open Go.RowKit Go.Proofs

/-- w' is w but for one cell, draws apart. -/
structure Sto (w w' : World) (ob : Nat) (v : Value) : Prop where
  heap : w'.heap = (w.setCell ⟨ob, 0, none⟩ v).heap
  os : w'.os = w.os
  tape : w'.tape = w.tape
  output : w'.output = w.output

theorem drewN_parts (w : World) : ∀ n, (w.drewN n).heap = w.heap ∧ (w.drewN n).os = w.os ∧ (w.drewN n).tape = w.tape ∧ (w.drewN n).output = w.output
  | 0 => ⟨rfl, rfl, rfl, rfl⟩
  | n + 1 => by
    have := drewN_parts w.drew n
    exact this

theorem sto_of (w : World) (ob : Nat) (v : Value) (p q : Nat) : Sto w (((w.drewN p).setCell ⟨ob, 0, none⟩ v).drewN q) ob v := by
  obtain ⟨h1, h2, h3, h4⟩ := drewN_parts ((w.drewN p).setCell ⟨ob, 0, none⟩ v) q
  obtain ⟨g1, g2, g3, g4⟩ := drewN_parts w p
  exact ⟨h1.trans (by simp [World.setCell]), h2.trans g2, h3.trans g3, h4.trans g4⟩

set_option maxHeartbeats 1000000 in
theorem grow_room (ob F n cap : Nat) (w : World) (hn : n < cap) (hcap : cap ≤ 2000) (hc : w.cell? ⟨ob, 0, none⟩ = some (.slice (some ⟨F, 0, none⟩) n cap)) (hf : w.frozen? ⟨ob, 0, none⟩ = false) :
    Calls Yba.prog 10 #[.pointer (some ⟨ob, 0, none⟩)] w fun e w' => e = .returned (.pointer (some ⟨F, n * 3, none⟩)) ∧ Sto w w' ob (.slice (some ⟨F, 0, none⟩) (n + 1) cap) := by
  have h1 : (n : Int) < (cap : Int) := by omega
  have h2 : (n : Int) + 1 ≤ (cap : Int) := by omega
  go_enter Yba.func10, Yba.ntmps10
  go_wp2
  go_quiet (fail)
  go_wp2
  go_region
  all_goals go_wp2
  all_goals go_quiet (fail)
  all_goals go_wp2
  all_goals go_ret
  all_goals exact ⟨rfl, sto_of w _ _ _ _⟩

/-- What grow leaves where the storage is full. -/
structure Grew (w w' : World) (ob G n cap : Nat) (olds : List Value) : Prop where
  slot : w'.cell? ⟨ob, 0, none⟩ = some (.slice (some ⟨G, 0, none⟩) (n + 1) cap)
  old : ∀ j u, olds[j]? = some u → w'.cell? ⟨G, j, none⟩ = some u
  new : ∀ i, i < 3 → w'.cell? ⟨G, n * 3 + i, none⟩ = some (.slice none 0 0)
  hG : w.heap.size ≤ G
  block : ∀ k, k < w.heap.size → k ≠ ob → w'.heap[k]? = w.heap[k]?
  size : w.heap.size ≤ w'.heap.size
  os : w'.os = w.os
  tape : w'.tape = w.tape
  output : w'.output = w.output

/-- The new row. -/
def NewRow (w1 : World) (G n cap : Nat) (olds : List Value) : Prop :=
  ∃ cur, w1.heap[G]? = some (.cells cur 33 (0, 0)) ∧ cur.size = cap * 3 ∧ cur.toList.take ((n + 1) * 3) = olds ++ [.slice none 0 0, .slice none 0 0, .slice none 0 0]

/-- The append of grow, as one step of its region. -/
theorem step_grow {ops : Array Oper} {o : Oper} {a : Act} {w : World} {K : Act → World → Prop} {Q : Exit → Act → World → Prop} {E : Prop}
    (hg : o.guard = none) (s x : Operand) (hop : o.op = Op.call { callee := Callee.builtin Builtin.append, args := #[s, x], argTypes := #[28, 28] })
    (ao : Option Addr) (n : Nat) (olds : List Value) (hs : a.eval s = .slice ao n n) (hnone : ao = none → n = 0) (hlo : olds.length = n * 3) (holds : ∀ b, ao = some b → ∀ j u, olds[j]? = some u → w.cell? (b.add j) = some u)
    (b : Nat) (hx : a.eval x = .slice (some ⟨b, 0, none⟩) 1 1) (hb : w.heap[b]? = some (.cells #[.slice none 0 0, .slice none 0 0, .slice none 0 0] 33 (0, 0))) (hn : n ≤ 2000)
    (hK : ∀ G cap w', n + 1 ≤ cap → w.heap.size ≤ G → NewRow w' G n cap olds → w.grownBy w' none → K (a.put o.dst (.slice (some ⟨G, 0, none⟩) (n + 1) cap)) w') :
    if Region.wanted o (yielded ops a.tmps) = true then Oper.wp Yba.prog o a w K Q else E := by
  obtain ⟨i0, hi, hz0, hz1, hz2⟩ := info_parts Yba.info33
  refine step_append_grows hg s x 28 hop 33 i0 zMem 3 72 Yba.underlying28 hi hz0 hz1 hz2 rfl (by decide) ao n n olds hs (fun e => ⟨hnone e, hnone e⟩) hlo holds ⟨b, 0, none⟩ 1 1 [.slice none 0 0, .slice none 0 0, .slice none 0 0] hx rfl ?_ ?_ (by omega) (by unfold maxLen; omega) (by omega) ?_
  · intro j u hj
    rw [Addr.add_lit]
    simp [World.cell?, hb]
    simpa using hj
  · intro u hu
    simp at hu
    subst hu
    rfl
  · intro v' w' hown hgrow
    rcases hown.2 with ⟨_, h0⟩ | ⟨G, cap, cur, rfl, hG, hh, hnc, hcm, hcs, htk⟩
    · omega
    · exact hK G cap w' hnc hG ⟨cur, hh, hcs, htk⟩ hgrow

theorem size_drewN (w : World) (k : Nat) : (w.drewN k).heap.size = w.heap.size := by rw [(drewN_parts w k).1]

theorem heap_da (w : World) (k : Nat) (o : Obj) : ((w.drewN k).alloc o).heap[w.heap.size]? = some o := by
  have h := heap_alloc_new (w.drewN k) o
  rw [size_drewN] at h
  exact h

theorem below_da (w : World) (k : Nat) (o : Obj) : Below w.heap.size w ((w.drewN k).alloc o) := by
  obtain ⟨g1, g2, g3, g4⟩ := drewN_parts w k
  refine Below.alloc ⟨g2, g3, g4, by rw [g1]; exact Nat.le_refl _, fun i _ => by rw [g1]⟩ (by rw [g1]; exact Nat.le_refl _) o

theorem below_grown {w wx w1 : World} (hx : Below w.heap.size w wx) (hg : wx.grownBy w1 none) : Below w.heap.size w w1 :=
  hx.grown hg hx.size (fun k hk => by cases hk)

section
variable {w1 : World} {G n cap : Nat} {olds : List Value}
theorem NewRow.at_ (h : NewRow w1 G n cap olds) (j : Nat) (u : Value) (hj : (olds ++ [.slice none 0 0, .slice none 0 0, .slice none 0 0])[j]? = some u) : w1.cell? ⟨G, j, none⟩ = some u := by
  obtain ⟨cur, hh, hs, ht⟩ := h
  rw [← ht, List.getElem?_take] at hj
  split at hj
  · simp [World.cell?, hh]
    simpa using hj
  · cases hj
theorem NewRow.new (h : NewRow w1 G n cap olds) (hlo : olds.length = n * 3) (i : Nat) (hi : i < 3) : w1.cell? ⟨G, n * 3 + i, none⟩ = some (.slice none 0 0) := by
  refine h.at_ _ _ ?_
  rw [List.getElem?_append_right (by omega), hlo, Nat.add_sub_cancel_left]
  match i, hi with
  | 0, _ => rfl
  | 1, _ => rfl
  | 2, _ => rfl
theorem NewRow.frozen (h : NewRow w1 G n cap olds) (o : Nat) : w1.frozen? ⟨G, o, none⟩ = false := by
  obtain ⟨cur, hh, hs, ht⟩ := h
  simp [World.frozen?, hh]
end

/-- The whole of it, whatever draws come behind. -/
theorem grew_of {w w1 wf : World} {ob G n cap : Nat} {olds : List Value} (hlo : olds.length = n * 3) (hob : ob < w.heap.size) (hG : w.heap.size ≤ G) (hc : ∃ u, w.cell? ⟨ob, 0, none⟩ = some u) (hb : Below w.heap.size w w1) (hr : NewRow w1 G n cap olds)
    (hf : wf.heap = ((((w1.setCell ⟨G, n * 3, none⟩ (.slice none 0 0)).setCell ⟨G, n * 3 + 1, none⟩ (.slice none 0 0)).setCell ⟨G, n * 3 + 2, none⟩ (.slice none 0 0)).setCell ⟨ob, 0, none⟩ (.slice (some ⟨G, 0, none⟩) (n + 1) cap)).heap)
    (h1 : wf.os = w1.os) (h2 : wf.tape = w1.tape) (h3 : wf.output = w1.output) : Grew w wf ob G n cap olds := by
  have cellf : ∀ a, wf.cell? a = ((((w1.setCell ⟨G, n * 3, none⟩ (.slice none 0 0)).setCell ⟨G, n * 3 + 1, none⟩ (.slice none 0 0)).setCell ⟨G, n * 3 + 2, none⟩ (.slice none 0 0)).setCell ⟨ob, 0, none⟩ (.slice (some ⟨G, 0, none⟩) (n + 1) cap)).cell? a := fun a => by simp only [World.cell?, hf]
  have rows : ∀ a, a.block = G → wf.cell? a = (((w1.setCell ⟨G, n * 3, none⟩ (.slice none 0 0)).setCell ⟨G, n * 3 + 1, none⟩ (.slice none 0 0)).setCell ⟨G, n * 3 + 2, none⟩ (.slice none 0 0)).cell? a := fun a ha => by
    rw [cellf, World.cell?_setCell_other _ _ _ _ (fun e => by have := congrArg Addr.block e; simp at this; omega)]
  have n0 := hr.new hlo 0 (by omega)
  have n1 := hr.new hlo 1 (by omega)
  have n2 := hr.new hlo 2 (by omega)
  refine ⟨?_, fun j u hj => ?_, fun i hi => ?_, hG, fun k hk hko => ?_, ?_, h1.trans hb.os, h2.trans hb.tape, h3.trans hb.output⟩
  · rw [cellf]
    obtain ⟨u, hu⟩ := hc
    refine World.cell?_setCell_same _ _ _ (show _ = some u from ?_)
    rw [World.cell?_setCell_other _ _ _ _ (fun e => by have := congrArg Addr.block e; simp at this; omega), World.cell?_setCell_other _ _ _ _ (fun e => by have := congrArg Addr.block e; simp at this; omega), World.cell?_setCell_other _ _ _ _ (fun e => by have := congrArg Addr.block e; simp at this; omega)]
    exact cell_later hb hu
  · have hjl : j < n * 3 := by rw [← hlo]; exact (List.getElem?_eq_some_iff.1 hj).1
    rw [rows _ rfl, World.cell?_setCell_other _ _ _ _ (fun e => by have := congrArg Addr.off e; simp at this; omega), World.cell?_setCell_other _ _ _ _ (fun e => by have := congrArg Addr.off e; simp at this; omega), World.cell?_setCell_other _ _ _ _ (fun e => by have := congrArg Addr.off e; simp at this; omega)]
    exact hr.at_ j u (by rw [List.getElem?_append_left (by omega)]; exact hj)
  · rw [rows _ rfl]
    match i, hi with
    | 0, _ =>
      rw [World.cell?_setCell_other _ _ _ _ (fun e => by have := congrArg Addr.off e; simp at this), World.cell?_setCell_other _ _ _ _ (fun e => by have := congrArg Addr.off e; simp at this)]
      exact World.cell?_setCell_same _ _ _ n0
    | 1, _ =>
      rw [World.cell?_setCell_other _ _ _ _ (fun e => by have := congrArg Addr.off e; simp at this)]
      exact World.cell?_setCell_same _ _ _ (by rw [World.cell?_setCell_other _ _ _ _ (fun e => by have := congrArg Addr.off e; simp at this)]; exact n1)
    | 2, _ =>
      exact World.cell?_setCell_same _ _ _ (by rw [World.cell?_setCell_other _ _ _ _ (fun e => by have := congrArg Addr.off e; simp at this), World.cell?_setCell_other _ _ _ _ (fun e => by have := congrArg Addr.off e; simp at this)]; exact n2)
  · rw [hf, Below.heap_setCell _ _ _ _ hko, Below.heap_setCell _ _ _ _ (by simp; omega), Below.heap_setCell _ _ _ _ (by simp; omega), Below.heap_setCell _ _ _ _ (by simp; omega)]
    exact hb.block k hk
  · rw [hf]
    simp [World.setCell]
    exact hb.size

theorem modify_comm {α : Type} (A : Array α) (i j : Nat) (f g : α → α) (h : i ≠ j) : (A.modify i f).modify j g = (A.modify j g).modify i f := by
  apply Array.ext
  · simp
  · intro k h1 h2
    simp only [Array.getElem_modify]
    by_cases hi : i = k
    · have hj : j ≠ k := by omega
      simp [hi, hj]
    · simp [hi]

theorem setCell_comm (w : World) (a b : Addr) (u v : Value) (h : a.block ≠ b.block) : (w.setCell a u).setCell b v = (w.setCell b v).setCell a u := by
  unfold World.setCell
  simp only
  rw [modify_comm _ _ _ _ _ h]

theorem grew_drew {w wf : World} {ob G n cap : Nat} {olds : List Value} (q : Nat) (h : Grew w wf ob G n cap olds) : Grew w (wf.drewN q) ob G n cap olds := by
  obtain ⟨e1, e2, e3, e4⟩ := drewN_parts wf q
  have ec : ∀ a, (wf.drewN q).cell? a = wf.cell? a := fun a => by simp only [World.cell?, e1]
  exact ⟨(ec _).trans h.slot, fun j u hj => (ec _).trans (h.old j u hj), fun i hi => (ec _).trans (h.new i hi), h.hG, fun k h1 h2 => by rw [e1]; exact h.block k h1 h2, by rw [e1]; exact h.size, e2.trans h.os, e3.trans h.tape, e4.trans h.output⟩

theorem grew_last {w w1 : World} {ob G n cap : Nat} {olds : List Value} (q : Nat) (hlo : olds.length = n * 3) (hob : ob < w.heap.size) (hG : w.heap.size ≤ G) (hc : ∃ u, w.cell? ⟨ob, 0, none⟩ = some u) (hb : Below w.heap.size w w1) (hr : NewRow w1 G n cap olds) :
    Grew w (((((w1.setCell ⟨G, n * 3, none⟩ (.slice none 0 0)).setCell ⟨G, n * 3 + 1, none⟩ (.slice none 0 0)).setCell ⟨G, n * 3 + 2, none⟩ (.slice none 0 0)).setCell ⟨ob, 0, none⟩ (.slice (some ⟨G, 0, none⟩) (n + 1) cap)).drewN q) ob G n cap olds :=
  grew_drew q (grew_of hlo hob hG hc hb hr rfl rfl rfl rfl)

theorem grew_first {w w1 : World} {ob G n cap : Nat} {olds : List Value} (q : Nat) (hlo : olds.length = n * 3) (hob : ob < w.heap.size) (hG : w.heap.size ≤ G) (hc : ∃ u, w.cell? ⟨ob, 0, none⟩ = some u) (hb : Below w.heap.size w w1) (hr : NewRow w1 G n cap olds) :
    Grew w (((((w1.setCell ⟨ob, 0, none⟩ (.slice (some ⟨G, 0, none⟩) (n + 1) cap)).setCell ⟨G, n * 3, none⟩ (.slice none 0 0)).setCell ⟨G, n * 3 + 1, none⟩ (.slice none 0 0)).setCell ⟨G, n * 3 + 2, none⟩ (.slice none 0 0)).drewN q) ob G n cap olds := by
  rw [setCell_comm w1 ⟨ob, 0, none⟩ ⟨G, n * 3, none⟩ _ _ (by simp; omega), setCell_comm _ ⟨ob, 0, none⟩ ⟨G, n * 3 + 1, none⟩ _ _ (by simp; omega), setCell_comm _ ⟨ob, 0, none⟩ ⟨G, n * 3 + 2, none⟩ _ _ (by simp; omega)]
  exact grew_last q hlo hob hG hc hb hr

set_option maxHeartbeats 1000000 in
theorem grow_full (ao : Option Addr) (ob n : Nat) (olds : List Value) (w : World) (hcap : n ≤ 2000) (hao : ao = none → n = 0) (hlo : olds.length = n * 3) (holds : ∀ b, ao = some b → ∀ j u, olds[j]? = some u → w.cell? (b.add j) = some u)
    (hc : w.cell? ⟨ob, 0, none⟩ = some (.slice ao n n)) (hf : w.frozen? ⟨ob, 0, none⟩ = false) :
    Calls Yba.prog 10 #[.pointer (some ⟨ob, 0, none⟩)] w fun e w' => ∃ G cap : Nat, e = .returned (.pointer (some ⟨G, n * 3, none⟩)) ∧ Grew w w' ob G n cap olds := by
  have h1 : ¬ (n : Int) < (n : Int) := by omega
  have h2 : (n : Int) < (n : Int) + 1 := by omega
  have HH : Hid (∀ b, ao = some b → ∀ j u, olds[j]? = some u → w.cell? (b.add j) = some u) := holds
  have HA : Hid (ao = none → n = 0) := hao
  have hob : ob < w.heap.size := World.block_lt_of_cell? _ _ hc
  have hca : ∀ k o, ((w.drewN k).alloc o).cell? ⟨ob, 0, none⟩ = some (.slice ao n n) := fun k o => cell_later (below_da w k o) hc
  clear holds hao
  go_enter Yba.func10, Yba.ntmps10
  go_wp2
  go_quiet (fail)
  go_wp2
  go_region_law (refine step_grow rfl (.tmp 25) (.tmp 28) rfl ao n olds rfl HA.out hlo (fun b e j u hj => cell_later (below_da w _ _) (HH.out b e j u hj)) w.heap.size rfl (heap_da w _ _) hcap ?_; intro G cap w1 hcap1 hG hrow hgrow; have hB1 := below_grown (below_da w _ _) hgrow; have hG1 : w.heap.size ≤ G := Nat.le_trans (below_da w _ _).size hG; have g0 := hrow.new hlo 0 (by omega); have g1 := hrow.new hlo 1 (by omega); have g2 := hrow.new hlo 2 (by omega); have gf := hrow.frozen; have oc := cell_later hB1 hc; have og := (hB1.frozen (p := ⟨ob, 0, none⟩) hob).trans hf; rw [Nat.add_zero] at g0; clear hgrow hG)
  all_goals go_wp2
  all_goals go_quiet (fail)
  all_goals go_wp2
  all_goals go_ret
  all_goals refine ⟨G, cap, rfl, ?_⟩
  all_goals first | with_reducible exact grew_last _ hlo hob hG1 ⟨_, hc⟩ hB1 hrow | with_reducible exact grew_first _ hlo hob hG1 ⟨_, hc⟩ hB1 hrow
end Go.Proofs.Ybulkbwfu
