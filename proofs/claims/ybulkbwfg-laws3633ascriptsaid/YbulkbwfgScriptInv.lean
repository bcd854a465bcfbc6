/-
  LawS3633AScript: what the model's memory holds.
-/
import Derived.Test.YbulkbwfgScriptReplace
namespace Go.Proofs.Ybulkbwfg
open Go.RowKit Go.Proofs

/-- An entity's cells. -/
def entA (j : Nat) (m : Option Nat) : Array Value := #[.string (kindB j), .string (nameB j), .string { data := #[] }, .string { data := #[] }, .string { data := #[] }, .string { data := #[] }, .string { data := #[] }, .string { data := #[] },
  .string { data := #[] }, .bool false, .slice none 0 0, .map m, .int .i64 0]
def ptrs (E : Nat → Nat) (i : Nat) : List Value := (List.range i).map fun j => .pointer (some ⟨E j, 0, none⟩)

/-- An entity's map holds these reports. -/
def RepsAt (W : World) : Option Nat → List Ent → Prop
  | none, l => l = []
  | some R, l => W.heap[R]? = some (.map (ents l 0).toArray l.length)

structure Inv (w wr : World) (Mo B i : Nat) (E : Nat → Nat) (v : Value) (mo : Nat → Option Nat) (T : List Ent) : Prop where
  below : Below w.heap.size w wr
  model : wr.heap[Mo]? = some (.cells #[v, .map (some B)] 27 (0, 0))
  own : wr.ownsRow w.heap.size 32 1 v i (ptrs E i)
  byRef : wr.heap[B]? = some (.map (refEnts E i).toArray i)
  ent : ∀ j, j < i → wr.heap[E j]? = some (.cells (entA j (mo j)) 37 (0, 0))
  reps : ∀ j, j < i → RepsAt wr (mo j) (sub j T)
  minj : ∀ j j' R, j < i → j' < i → mo j = some R → mo j' = some R → j = j'
  einj : ∀ j j', j < i → j' < i → E j = E j' → j = j'
  hMo : w.heap.size ≤ Mo
  hB : w.heap.size ≤ B
  hE : ∀ j, j < i → w.heap.size ≤ E j
  hm : ∀ j R, j < i → mo j = some R → w.heap.size ≤ R ∧ R ≠ B
  tab : ∀ x ∈ T, x.ok ∧ x.e < 3 ∧ -9223372036854775808 ≤ x.seq ∧ x.seq ≤ 9223372036854775807

/-- Every block of cells that is no entity's is as it was. -/
def Old (wr wx : World) : Prop := ∀ (b : Nat) (c : Array Value) (t : TypeId) (f : Nat × Nat), t ≠ 37 → wr.heap[b]? = some (Obj.cells c t f) → wx.heap[b]? = some (Obj.cells c t f)
theorem Old.refl (w : World) : Old w w := fun _ _ _ _ _ h => h
theorem Old.trans {a b c : World} (h : Old a b) (k : Old b c) : Old a c := fun x y t f ht hh => k x y t f ht (h x y t f ht hh)
theorem Old.of_below {a b : World} (h : Below a.heap.size a b) : Old a b := fun x _ _ _ _ hh => by
  rw [h.block x (Array.getElem?_eq_some_iff.1 hh).1]; exact hh

section
variable {w wr wx : World} {Mo B i : Nat} {E : Nat → Nat} {v : Value} {mo : Nat → Option Nat} {T : List Ent}

theorem ownsRow_far {w w' : World} {B n : Nat} {e : TypeId} {size : Nat} {v : Value} {xs : List Value} (h : w.ownsRow B e size v n xs) (hb : ∀ b cur, B ≤ b → w.heap[b]? = some (.cells cur e (0, 0)) → w'.heap[b]? = some (.cells cur e (0, 0))) : w'.ownsRow B e size v n xs := by
  refine ⟨h.1, ?_⟩
  rcases h.2 with h2 | ⟨g, cap, cur, hv, hg, hh, r⟩
  · exact Or.inl h2
  · exact Or.inr ⟨g, cap, cur, hv, hg, hb g cur hg hh, r⟩

/-- Whatever happens in blocks that are none of the model's. -/
theorem Inv.keep (h : Inv w wr Mo B i E v mo T) (hb : Below w.heap.size w wx) (ho : ∀ (b : Nat) (o : Obj), wr.heap[b]? = some o → (∀ c f, o ≠ Obj.cells c 52 f) → (∀ c f, o ≠ Obj.cells c 49 f) → wx.heap[b]? = some o) : Inv w wx Mo B i E v mo T := by
  refine ⟨hb, ho _ _ h.model (fun c f e => by cases e) (fun c f e => by cases e), ownsRow_far h.own (fun b cur _ hh => ho _ _ hh (fun c f e => by cases e) (fun c f e => by cases e)), ho _ _ h.byRef (fun c f e => by cases e) (fun c f e => by cases e), fun j hj => ho _ _ (h.ent j hj) (fun c f e => by cases e) (fun c f e => by cases e), fun j hj => ?_, h.minj, h.einj, h.hMo, h.hB, h.hE, h.hm, h.tab⟩
  have hr := h.reps j hj
  cases hm : mo j with
  | none => rw [hm] at hr; exact hr
  | some R => rw [hm] at hr; exact ho _ _ hr (fun c f e => by cases e) (fun c f e => by cases e)

theorem Inv.later (h : Inv w wr Mo B i E v mo T) (hb : Below wr.heap.size wr wx) : Inv w wx Mo B i E v mo T :=
  h.keep (h.below.trans (hb.mono h.below.size)) (fun b _ hh _ _ => by rw [hb.block b (Array.getElem?_eq_some_iff.1 hh).1]; exact hh)

theorem heap_setObj (W : World) (R b : Nat) (o : Obj) (hb : b ≠ R) : ({ W with heap := W.heap.setIfInBounds R o } : World).heap[b]? = W.heap[b]? := by
  show (W.heap.setIfInBounds R o)[b]? = _
  simp [Ne.symm hb]
theorem heap_setObj_at (W : World) (R : Nat) (o o' : Obj) (h : W.heap[R]? = some o') : ({ W with heap := W.heap.setIfInBounds R o } : World).heap[R]? = some o := by
  have hlt : R < W.heap.size := (Array.getElem?_eq_some_iff.1 h).1
  show (W.heap.setIfInBounds R o)[R]? = _
  simp [hlt]
theorem below_setObj {B : Nat} {a W : World} (h : Below B a W) {R : Nat} (hR : B ≤ R) (o : Obj) : Below B a { W with heap := W.heap.setIfInBounds R o } :=
  ⟨h.os, h.tape, h.output, by simpa using h.size, fun b hb => (heap_setObj W R b o (by omega)).trans (h.block b hb)⟩

theorem mem_put {x y : Ent} : ∀ {T : List Ent}, y ∈ putE x T → y = x ∨ y ∈ T
  | [], h => by simp [putE] at h; exact Or.inl h
  | z :: zs, h => by
    unfold putE at h
    by_cases hh : z.hit x.e x.s x.p = true
    · rw [if_pos hh] at h
      cases h with
      | head => exact Or.inl rfl
      | tail _ h => exact Or.inr (.tail _ h)
    · rw [if_neg hh] at h
      cases h with
      | head => exact Or.inr (.head _)
      | tail _ h =>
        rcases mem_put h with h | h
        · exact Or.inl h
        · exact Or.inr (.tail _ h)

/-- A report is laid into an entity's map. -/
theorem Inv.put (h : Inv w wr Mo B i E v mo T) (x : Ent) (hx : x.ok) (hxe : x.e < 3) (hi : x.e < i) (hs : -9223372036854775808 ≤ x.seq ∧ x.seq ≤ 9223372036854775807) {R : Nat} (hR : mo x.e = some R) :
    Inv w { wr with heap := wr.heap.setIfInBounds R (.map (ents (putE x (sub x.e T)) 0).toArray (putE x (sub x.e T)).length) } Mo B i E v mo (putE x T) := by
  have hr := h.reps x.e hi
  rw [hR] at hr
  obtain ⟨hRw, hRB⟩ := h.hm x.e R hi hR
  have ne : ∀ b o, wr.heap[b]? = some o → (∀ es c, o ≠ .map es c) → b ≠ R := fun b o hb hno e => by
    subst e
    rw [hr] at hb
    cases hb
    exact hno _ _ rfl
  refine ⟨below_setObj h.below hRw _, ?_, ?_, ?_, fun j hj => ?_, fun j hj => ?_, h.minj, h.einj, h.hMo, h.hB, h.hE, h.hm, fun y hy => ?_⟩
  · rw [heap_setObj _ _ _ _ (ne _ _ h.model (fun es c e => by cases e))]; exact h.model
  · exact ownsRow_far h.own (fun b cur _ hh => by rw [heap_setObj _ _ _ _ (ne _ _ hh (fun es c e => by cases e))]; exact hh)
  · rw [heap_setObj _ _ _ _ (Ne.symm hRB)]; exact h.byRef
  · rw [heap_setObj _ _ _ _ (ne _ _ (h.ent j hj) (fun es c e => by cases e))]; exact h.ent j hj
  · by_cases e : j = x.e
    · subst e
      rw [hR, sub_put_same]
      exact heap_setObj_at _ _ _ _ hr
    · rw [sub_put_other x j e]
      have hj' := h.reps j hj
      cases hm : mo j with
      | none => rw [hm] at hj'; exact hj'
      | some R' =>
        rw [hm] at hj'
        have : R' ≠ R := fun e' => e (h.minj j x.e R' hj hi hm (by rw [e']; exact hR))
        exact (heap_setObj _ _ _ _ this).trans hj'
  · rcases mem_put hy with rfl | hy
    · exact ⟨hx, hxe, hs⟩
    · exact h.tab y hy

theorem entA_set (j R : Nat) (m : Option Nat) : (entA j m).setIfInBounds 11 (.map (some R)) = entA j (some R) := rfl

/-- An entity gets its map. -/
theorem Inv.link (h : Inv w wr Mo B i E v mo T) (e : Nat) (hi : e < i) (hn : mo e = none) :
    Inv w ((wr.alloc (.map #[] 0)).setCell ⟨E e, 11, none⟩ (.map (some wr.heap.size))) Mo B i E v (fun j => if j = e then some wr.heap.size else mo j) T := by
  have hsz := h.below.size
  have old : ∀ b o, b ≠ E e → wr.heap[b]? = some o → ((wr.alloc (.map #[] 0)).setCell ⟨E e, 11, none⟩ (.map (some wr.heap.size))).heap[b]? = some o := fun b o hb hh => by
    rw [Below.heap_setCell _ _ _ _ hb, Below.heap_alloc _ _ _ (Array.getElem?_eq_some_iff.1 hh).1]
    exact hh
  have hEe := h.ent e hi
  have hElt : E e < wr.heap.size := (Array.getElem?_eq_some_iff.1 hEe).1
  have ne : ∀ b o, wr.heap[b]? = some o → (∀ c f, o ≠ .cells c 37 f) → b ≠ E e := fun b o hb hno e' => by
    subst e'
    rw [hEe] at hb
    cases hb
    exact hno _ _ rfl
  have hr := h.reps e hi
  rw [hn] at hr
  refine ⟨(h.below.alloc hsz _).setCell (h.hE e hi) _, ?_, ?_, ?_, fun j hj => ?_, fun j hj => ?_, fun j j' R hj hj' h1 h2 => ?_, h.einj, h.hMo, h.hB, h.hE, fun j R hj h1 => ?_, h.tab⟩
  · exact old _ _ (ne _ _ h.model (fun c f e => by cases e)) h.model
  · exact ownsRow_far h.own (fun b cur _ hh => old _ _ (ne _ _ hh (fun c f e => by cases e)) hh)
  · exact old _ _ (ne _ _ h.byRef (fun c f e => by cases e)) h.byRef
  · by_cases e' : j = e
    · subst e'
      rw [if_pos rfl, ← entA_set j _ (mo j)]
      exact heap_setAt _ _ _ _ _ _ (by rw [Below.heap_alloc _ _ _ hElt]; exact hEe)
    · rw [if_neg e']
      exact old _ _ (fun q => e' (h.einj j e hj hi q)) (h.ent j hj)
  · by_cases e' : j = e
    · subst e'
      rw [if_pos rfl, hr]
      exact (Below.heap_setCell _ _ _ _ (by show wr.heap.size ≠ E j; omega)).trans (heap_alloc_new _ _)
    · rw [if_neg e']
      have hj' := h.reps j hj
      cases hm : mo j with
      | none => rw [hm] at hj'; exact hj'
      | some R' =>
        rw [hm] at hj'
        exact old _ _ (ne _ _ hj' (fun c f e => by cases e)) hj'
  · have lt : ∀ q R, q < i → mo q = some R → R < wr.heap.size := fun q R hq hR => by
      have := h.reps q hq
      rw [hR] at this
      exact (Array.getElem?_eq_some_iff.1 this).1
    by_cases e1 : j = e
    · by_cases e2 : j' = e
      · rw [e1, e2]
      · rw [if_pos e1] at h1
        rw [if_neg e2] at h2
        cases h1
        exact absurd (lt j' _ hj' h2) (by omega)
    · rw [if_neg e1] at h1
      by_cases e2 : j' = e
      · rw [if_pos e2] at h2
        cases h2
        exact absurd (lt j _ hj h1) (by omega)
      · rw [if_neg e2] at h2
        exact h.minj j j' R hj hj' h1 h2
  · by_cases e1 : j = e
    · rw [if_pos e1] at h1
      cases h1
      have := (Array.getElem?_eq_some_iff.1 h.byRef).1
      exact ⟨hsz, by omega⟩
    · rw [if_neg e1] at h1
      exact h.hm j R hj h1
end
end Go.Proofs.Ybulkbwfg
