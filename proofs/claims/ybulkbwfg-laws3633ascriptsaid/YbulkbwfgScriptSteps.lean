/-
  LawS3633AScript: the table that the law itself keeps, beside the model's.
-/
import Derived.Test.YbulkbwfgScriptApply
import Derived.Laws.OwnMore
namespace Go.Proofs.Ybulkbwfg
open Go.RowKit Go.Proofs

theorem flat_length : ∀ T : List Ent, (T.flatMap Ent.cells).length = T.length * 6
  | [] => rfl
  | y :: ys => by
    rw [List.flatMap_cons, List.length_append, flat_length ys, List.length_cons]
    show 6 + ys.length * 6 = _
    omega
theorem flat_get : ∀ (T : List Ent) (i c : Nat) (x : Ent), c < 6 → T[i]? = some x → (T.flatMap Ent.cells)[i * 6 + c]? = x.cells[c]?
  | [], i, c, x, _, h => by simp at h
  | y :: ys, 0, c, x, hc, h => by
    simp at h
    subst h
    rw [List.flatMap_cons, Nat.zero_mul, Nat.zero_add, List.getElem?_append_left (by show c < 6; exact hc)]
  | y :: ys, i + 1, c, x, hc, h => by
    rw [List.flatMap_cons, List.getElem?_append_right (by show 6 ≤ _; omega)]
    have e : (i + 1) * 6 + c - y.cells.length = i * 6 + c := by show (i + 1) * 6 + c - 6 = _; omega
    rw [e]
    exact flat_get ys i c x hc (by simpa using h)

/-- Six cells are written. -/
def set6 (L : List Value) (j : Nat) (x : Ent) : List Value := (((((L.set j (.int .i64 (x.e : Int))).set (j + 1) (.int .i64 (x.s : Int))).set (j + 2) (.int .i64 (x.p : Int))).set (j + 3) (.int .i64 x.seq)).set (j + 4) (.int .i64 x.st)).set (j + 5) (.string x.desc)
theorem set6_cons (y x : Ent) (L : List Value) (j : Nat) : set6 (y.cells ++ L) (j + 6) x = y.cells ++ set6 L j x := rfl
theorem flat_set (x : Ent) : ∀ (T : List Ent) (k : Nat), k < T.length → (T.set k x).flatMap Ent.cells = set6 (T.flatMap Ent.cells) (k * 6) x
  | [], k, h => by simp at h
  | y :: ys, 0, _ => rfl
  | y :: ys, k + 1, h => by
    rw [List.set_cons_succ, List.flatMap_cons, List.flatMap_cons, flat_set x ys k (by simpa using h), show (k + 1) * 6 = k * 6 + 6 by omega, set6_cons]

/-! ### No (e, s, p) twice -/
def NoTwice (T : List Ent) : Prop := T.Pairwise fun x y => ¬ (x.e = y.e ∧ x.s = y.s ∧ x.p = y.p)
theorem put_noTwice (x : Ent) : ∀ T : List Ent, NoTwice T → NoTwice (putE x T)
  | [], _ => by simp [NoTwice, putE]
  | y :: ys, h => by
    unfold NoTwice at h ⊢
    rw [List.pairwise_cons] at h
    unfold putE
    by_cases hh : y.hit x.e x.s x.p = true
    · rw [if_pos hh, List.pairwise_cons]
      have hk : y.e = x.e ∧ y.s = x.s ∧ y.p = x.p := by
        unfold Ent.hit at hh
        simp at hh
        exact ⟨hh.1.1, hh.1.2, hh.2⟩
      refine ⟨fun z hz hn => h.1 z hz ?_, h.2⟩
      rw [hk.1, hk.2.1, hk.2.2]
      exact hn
    · rw [if_neg hh, List.pairwise_cons]
      refine ⟨fun z hz => ?_, put_noTwice x ys h.2⟩
      rcases mem_put hz with rfl | hz
      · intro hn
        refine hh ?_
        unfold Ent.hit
        simp [hn.1, hn.2.1, hn.2.2]
      · exact h.1 z hz

/-- What stands between two steps. -/
structure St (w wx : World) (Mo B : Nat) (E : Nat → Nat) (v : Value) (ao : Option Addr) (cp : Nat) (T : List Ent) : Prop where
  inv : ∃ mo, Inv w wx Mo B 3 E v mo T
  own : wx.ownsRow w.heap.size 52 6 (.slice ao T.length cp) T.length (T.flatMap Ent.cells)
  one : NoTwice T

section
variable {w wr wx : World} {Mo B : Nat} {E : Nat → Nat} {v : Value} {ao : Option Addr} {cp : Nat} {T : List Ent}

theorem St.below (h : St w wr Mo B E v ao cp T) : Below w.heap.size w wr := by
  obtain ⟨mo, hI⟩ := h.inv
  exact hI.below
theorem own_old (h : wr.ownsRow w.heap.size 52 6 v T.length (T.flatMap Ent.cells)) (ho : Old wr wx) : wx.ownsRow w.heap.size 52 6 v T.length (T.flatMap Ent.cells) :=
  ownsRow_far h (fun b cur _ hb => ho b cur 52 (0, 0) (by decide) hb)
theorem St.later (h : St w wr Mo B E v ao cp T) (hb : Below wr.heap.size wr wx) : St w wx Mo B E v ao cp T := by
  obtain ⟨mo, hI⟩ := h.inv
  exact ⟨⟨mo, hI.later hb⟩, own_old h.own (Old.of_below hb), h.one⟩

theorem St.ownAt (h : St w wr Mo B E v ao cp T) : OwnAt wr ao T := fun h0 => by
  rcases h.own.2 with ⟨h2, h3⟩ | ⟨g, cap, cur, hv, _⟩
  · omega
  · have hv' : ao = some ⟨g, 0, none⟩ := by simp at hv; exact hv.1
    subst hv'
    have hat := h.own.cellAt
    refine ⟨g, rfl, fun i x hx => ?_⟩
    have hi : i < T.length := (List.getElem?_eq_some_iff.1 hx).1
    have q : ∀ c, c < 6 → wr.cell? ⟨g, i * 6 + c, none⟩ = x.cells[c]? := fun c hc => by
      rw [hat _ (by omega), flat_get T i c x hc hx]
    exact ⟨q 0 (by omega), q 1 (by omega), q 2 (by omega), q 3 (by omega), q 4 (by omega), q 5 (by omega)⟩

/-- Where the table has the key. -/
theorem St.at (h : St w wr Mo B E v ao cp T) {k : Nat} {x : Ent} (hx : T[k]? = some x) : ∃ g, ao = some ⟨g, 0, none⟩ ∧ (∀ i, wr.frozen? ⟨g, i, none⟩ = false) ∧ wr.cell? ⟨g, k * 6, none⟩ = some (.int .i64 (x.e : Int)) ∧ wr.cell? ⟨g, k * 6 + 1, none⟩ = some (.int .i64 (x.s : Int)) ∧ wr.cell? ⟨g, k * 6 + 2, none⟩ = some (.int .i64 (x.p : Int)) ∧
    wr.cell? ⟨g, k * 6 + 3, none⟩ = some (.int .i64 x.seq) ∧ wr.cell? ⟨g, k * 6 + 4, none⟩ = some (.int .i64 x.st) ∧ wr.cell? ⟨g, k * 6 + 5, none⟩ = some (.string x.desc) := by
  have h0 : 0 < T.length := by have := (List.getElem?_eq_some_iff.1 hx).1; omega
  obtain ⟨g, rfl, hc⟩ := h.ownAt h0
  exact ⟨g, rfl, fun i => h.own.frozenAt i, hc k x hx⟩

/-- The table's row is written at k. -/
theorem St.set {mo : Nat → Option Nat} {g k : Nat} {x : Ent} (hI : Inv w wr Mo B 3 E v mo (putE x T)) (hown : wr.ownsRow w.heap.size 52 6 (.slice (some ⟨g, 0, none⟩) T.length cp) T.length (T.flatMap Ent.cells)) (hone : NoTwice T) (hf : fnd x.e x.s x.p T = some k) :
    St w ((((((wr.setCell ⟨g, k * 6, none⟩ (.int .i64 (x.e : Int))).setCell ⟨g, k * 6 + 1, none⟩ (.int .i64 (x.s : Int))).setCell ⟨g, k * 6 + 2, none⟩ (.int .i64 (x.p : Int))).setCell ⟨g, k * 6 + 3, none⟩ (.int .i64 x.seq)).setCell ⟨g, k * 6 + 4, none⟩ (.int .i64 x.st)).setCell ⟨g, k * 6 + 5, none⟩ (.string x.desc)) Mo B E v (some ⟨g, 0, none⟩) cp (putE x T) := by
  have hk := fnd_lt hf
  have hps := put_set hf
  have hl : (putE x T).length = T.length := by rw [hps, List.length_set]
  have hg : w.heap.size ≤ g ∧ ∃ cur, wr.heap[g]? = some (.cells cur 52 (0, 0)) := by
    rcases hown.2 with ⟨h2, _⟩ | ⟨g', cap, cur, hv, hb, hh, _⟩
    · simp at h2
    · simp at hv
      rw [hv.1]
      exact ⟨hb, cur, hh⟩
  obtain ⟨hgw, cur, hgc⟩ := hg
  have o1 := (hown.stored (k * 6) (.int .i64 (x.e : Int))).1
  have o2 := (o1.stored (k * 6 + 1) (.int .i64 (x.s : Int))).1
  have o3 := (o2.stored (k * 6 + 2) (.int .i64 (x.p : Int))).1
  have o4 := (o3.stored (k * 6 + 3) (.int .i64 x.seq)).1
  have o5 := (o4.stored (k * 6 + 4) (.int .i64 x.st)).1
  have o6 := (o5.stored (k * 6 + 5) (.string x.desc)).1
  have b1 := hI.below.setCell (p := ⟨g, k * 6, none⟩) hgw (.int .i64 (x.e : Int))
  have b2 := b1.setCell (p := ⟨g, k * 6 + 1, none⟩) hgw (.int .i64 (x.s : Int))
  have b3 := b2.setCell (p := ⟨g, k * 6 + 2, none⟩) hgw (.int .i64 (x.p : Int))
  have b4 := b3.setCell (p := ⟨g, k * 6 + 3, none⟩) hgw (.int .i64 x.seq)
  have b5 := b4.setCell (p := ⟨g, k * 6 + 4, none⟩) hgw (.int .i64 x.st)
  have b6 := b5.setCell (p := ⟨g, k * 6 + 5, none⟩) hgw (.string x.desc)
  refine ⟨⟨mo, hI.keep b6 (fun b o hb hno _ => ?_)⟩, ?_, put_noTwice x T hone⟩
  · have hne : b ≠ g := fun e => by
      subst e
      rw [hgc] at hb
      cases hb
      exact hno _ _ rfl
    rw [Below.heap_setCell _ _ _ _ hne, Below.heap_setCell _ _ _ _ hne, Below.heap_setCell _ _ _ _ hne, Below.heap_setCell _ _ _ _ hne, Below.heap_setCell _ _ _ _ hne, Below.heap_setCell _ _ _ _ hne]
    exact hb
  · rw [hl, hps, flat_set x T k hk]
    exact o6
end
end Go.Proofs.Ybulkbwfg
