/-
  LawS3633AScript: how the model is laid (her first loop), plainly.
-/
import Derived.Test.YbulkbwfgScriptSteps
import Derived.Deep.AppendLies
namespace Go.Proofs.Ybulkbwfg
open Go.RowKit Go.Proofs

/-- The script that came in. -/
structure Steps where
  a : Nat → Nat
  s : Nat → Nat
  p : Nat → Nat
  seq : Nat → Int
  st : Nat → Int
  desc : Nat → ByteArray

theorem Inv.start (w : World) (E : Nat → Nat) : Inv w ((w.alloc (.map #[] 0)).alloc (.cells #[.slice none 0 0, .map (some w.heap.size)] 27)) (w.heap.size + 1) w.heap.size 0 E (.slice none 0 0) (fun _ => none) [] := by
  have hb : Below w.heap.size w (w.alloc (.map #[] 0)) := (Below.refl _ _).alloc (Nat.le_refl _) _
  refine ⟨hb.alloc hb.size _, ?_, World.ownsRow_nil _ _ _ _, ?_, fun j hj => by omega, fun j hj => by omega, fun j j' R hj => by omega, fun j j' hj => by omega, by omega, Nat.le_refl _, fun j hj => by omega, fun j R hj => by omega, fun x hx => by cases hx⟩
  · have := heap_alloc_new (w.alloc (.map #[] 0)) (.cells #[.slice none 0 0, .map (some w.heap.size)] 27)
    rw [World.size_alloc] at this
    exact this
  · rw [Below.heap_alloc _ _ _ (by simp)]
    exact heap_alloc_new w _

/-- One entity more. -/
theorem Inv.grow {w wr W : World} {Mo B i Eb : Nat} {E : Nat → Nat} {v v' : Value} (h : Inv w wr Mo B i E v (fun _ => none) []) (hb : Below w.heap.size w W) (hn : wr.heap.size ≤ Eb) (hmodel : W.heap[Mo]? = some (.cells #[v', .map (some B)] 27 (0, 0)))
    (hown : W.ownsRow w.heap.size 32 1 v' (i + 1) (ptrs E i ++ [.pointer (some ⟨Eb, 0, none⟩)])) (href : W.heap[B]? = some (.map (refEnts (fun j => if j = i then Eb else E j) (i + 1)).toArray (i + 1))) (hEb : W.heap[Eb]? = some (.cells (entA i none) 37 (0, 0))) (hold : ∀ j, j < i → W.heap[E j]? = wr.heap[E j]?) :
    Inv w W Mo B (i + 1) (fun j => if j = i then Eb else E j) v' (fun _ => none) [] := by
  have hlt : ∀ j, j < i → E j < wr.heap.size := fun j hj => (Array.getElem?_eq_some_iff.1 (h.ent j hj)).1
  refine ⟨hb, hmodel, ?_, href, fun j hj => ?_, fun j hj => rfl, fun j j' R hj hj' h1 => (by cases h1), fun j j' hj hj' => ?_, h.hMo, h.hB, fun j hj => ?_, fun j R hj h1 => (by cases h1), h.tab⟩
  · have e : ptrs (fun j => if j = i then Eb else E j) (i + 1) = ptrs E i ++ [.pointer (some ⟨Eb, 0, none⟩)] := by
      unfold ptrs
      rw [List.range_succ, List.map_append]
      congr 1
      · refine List.map_congr_left fun j hj => ?_
        have := List.mem_range.1 hj
        have hne : j ≠ i := by omega
        simp [hne]
      · simp
    rw [e]
    exact hown
  · by_cases e : j = i
    · subst e
      rw [if_pos rfl]
      exact hEb
    · show W.heap[if j = i then Eb else E j]? = _
      rw [if_neg e, hold j (by omega)]
      exact h.ent j (by omega)
  · show (if j = i then Eb else E j) = (if j' = i then Eb else E j') → _
    intro he
    by_cases e : j = i
    · by_cases e' : j' = i
      · omega
      · rw [if_pos e, if_neg e'] at he
        have := hlt j' (by omega)
        omega
    · by_cases e' : j' = i
      · rw [if_neg e, if_pos e'] at he
        have := hlt j (by omega)
        omega
      · rw [if_neg e, if_neg e'] at he
        exact h.einj j j' (by omega) (by omega) he
  · show w.heap.size ≤ if j = i then Eb else E j
    by_cases e : j = i
    · rw [if_pos e]
      exact Nat.le_trans h.below.size hn
    · rw [if_neg e]
      exact h.hE j (by omega)

/-! ### Appends to the rows that the call itself makes -/
theorem inf32 : (Yba.prog.info? 32).map (fun i => (i.zero, i.size, i.bytes)) = some (some (.pointer none), 1, 8) := by kernel_rfl
theorem inf52 : (Yba.prog.info? 52).map (fun i => (i.zero, i.size, i.bytes)) = some (some (.agg #[.int .i64 0, .int .i64 0, .int .i64 0, .int .i64 0, .int .i64 0, .string { data := #[] }]), 6, 56) := by kernel_rfl

theorem app32 {ops : Array Oper} {rest : List Oper} {o : Oper} {a : Act} {Q : Exit → Act → World → Prop} (w : World) (hgd : o.guard = none) (s x : Operand)
    (ho : o.op = .call { callee := .builtin .append, args := #[s, x], argTypes := #[25, 25] })
    (B : Nat) (v : Value) (m : Nat) (xs : List Value) (hs : a.eval s = v) (hown : w.ownsRow B 32 1 v m xs)
    (u : Value) (b : Nat) (hx : a.eval x = .slice (some ⟨b, 0, none⟩) 1 1) (hb : w.heap[b]? = some (.cells #[u] 32 (0, 0))) (hu : u.oneCell' = true) (hm : m ≤ 1000000) (hbase : B ≤ w.heap.size)
    (h : ∀ v' w', w'.ownsRow B 32 1 v' (m + 1) (xs ++ [u]) → w.grownBy w' v.ownBlock → wpList Yba.prog ops Q rest (a.put o.dst v') w') : wpList Yba.prog ops Q (o :: rest) a w := by
  obtain ⟨i0, hi, hz0, hz1, hz2⟩ := info_parts inf32
  refine wpList_append_own w hgd s x 25 ho B 32 i0 (.pointer none) 1 8 Yba.underlying25 hi hz0 hz1 hz2 rfl (by decide) v m xs hs hown ⟨b, 0, none⟩ 1 1 [u] hx rfl ?_ (fun y hy => by simp at hy; rw [hy]; exact hu) (by unfold maxLen; omega) (by omega) hbase ?_
  · have := World.news_of_block hb
    simpa using this
  · intro v' w' h1 h2 _
    exact h v' w' h1 h2

theorem app52 {ops : Array Oper} {rest : List Oper} {o : Oper} {a : Act} {Q : Exit → Act → World → Prop} (w : World) (hgd : o.guard = none) (s x : Operand)
    (ho : o.op = .call { callee := .builtin .append, args := #[s, x], argTypes := #[38, 38] })
    (B : Nat) (v : Value) (m : Nat) (xs : List Value) (hs : a.eval s = v) (hown : w.ownsRow B 52 6 v m xs)
    (y : Ent) (b : Nat) (hx : a.eval x = .slice (some ⟨b, 0, none⟩) 1 1) (hb : w.heap[b]? = some (.cells y.cells.toArray 52 (0, 0))) (hm : m ≤ 1000000) (hbase : B ≤ w.heap.size)
    (h : ∀ v' w', w'.ownsRow B 52 6 v' (m + 1) (xs ++ y.cells) → w.grownBy w' v.ownBlock → wpList Yba.prog ops Q rest (a.put o.dst v') w') : wpList Yba.prog ops Q (o :: rest) a w := by
  obtain ⟨i0, hi, hz0, hz1, hz2⟩ := info_parts inf52
  refine wpList_append_own w hgd s x 38 ho B 52 i0 (.agg #[.int .i64 0, .int .i64 0, .int .i64 0, .int .i64 0, .int .i64 0, .string { data := #[] }]) 6 56 Yba.underlying38 hi hz0 hz1 hz2 rfl (by decide) v m xs hs hown ⟨b, 0, none⟩ 1 1 y.cells hx rfl ?_ (fun z hz => ?_) (by unfold maxLen; omega) (by omega) hbase ?_
  · have := World.news_of_block hb
    simpa using this
  · unfold Ent.cells at hz
    simp at hz
    rcases hz with rfl | rfl | rfl | rfl | rfl | rfl <;> rfl
  · intro v' w' h1 h2 _
    exact h v' w' h1 h2

/-- What an append leaves as it was. -/
theorem grown_old {w w' : World} {base n size : Nat} {e : TypeId} {v : Value} {xs : List Value} (hown : w.ownsRow base e size v n xs) (hg : w.grownBy w' v.ownBlock) : ∀ (b : Nat) (o : Obj), w.heap[b]? = some o → (∀ c f, o ≠ Obj.cells c e f) → w'.heap[b]? = some o := fun b o hb hno => by
  rw [hg.block b (Array.getElem?_eq_some_iff.1 hb).1 (fun e' => ?_)]
  · exact hb
  · rcases hown.2 with ⟨h2, _⟩ | ⟨g, cap, cur, hv, _, hh, _⟩
    · rw [h2] at e'
      cases e'
    · rw [hv] at e'
      cases e'
      rw [hh] at hb
      cases hb
      exact hno _ _ rfl

/-- A slice of one's own is a slice. -/
theorem own_slice {w : World} {base n size : Nat} {e : TypeId} {v : Value} {xs : List Value} (hown : w.ownsRow base e size v n xs) : ∃ ao cp, v = .slice ao n cp := by
  rcases hown.2 with ⟨h2, h3⟩ | ⟨g, cap, cur, hv, _⟩
  · subst h3
    exact ⟨none, 0, h2⟩
  · exact ⟨_, cap, hv⟩

/-- The model's cell behind the append. -/
theorem start_mid {w W1 W2 : World} {Mo B i : Nat} {E : Nat → Nat} {v : Value} {o : Obj} (h : Inv w W1 Mo B i E v (fun _ => none) []) (hg : (W1.alloc o).grownBy W2 v.ownBlock) : W2.cell? ⟨Mo, 0, none⟩ = some v ∧ W2.frozen? ⟨Mo, 0, none⟩ = false := by
  have hm := grown_old (h.own.alloc o) hg Mo _ ((Below.heap_alloc _ _ _ (Array.getElem?_eq_some_iff.1 h.model).1).trans h.model) (fun c f e => by cases e)
  exact ⟨by simp [World.cell?, hm], by simp [World.frozen?, hm]⟩

theorem start_put {w wr W1 W2 : World} {Mo B i b30 : Nat} {E : Nat → Nat} {v v2 : Value} {o : Obj} {cs : Array Value} (hI : Inv w wr Mo B i E v (fun _ => none) []) (hb2 : Below wr.heap.size wr W1) (h37 : W1.heap[b30 + 1]? = some (.cells (entA i none) 37 (0, 0))) (h30 : W1.heap[b30]? = some (.cells cs 30 (0, 0)))
    (hown2 : W2.ownsRow w.heap.size 32 1 v2 (i + 1) (ptrs E i ++ [.pointer (some ⟨b30 + 1, 0, none⟩)])) (hg : (W1.alloc o).grownBy W2 v.ownBlock) (h3 : i < 3) (hnew : wr.heap.size ≤ b30) :
    (W2.setCell ⟨Mo, 0, none⟩ v2).heap[Mo]? = some (.cells #[v2, .map (some B)] 27 (0, 0)) ∧ (W2.setCell ⟨Mo, 0, none⟩ v2).heap[b30]? = some (.cells cs 30 (0, 0)) ∧
    ∃ W4, (Instr.mapUpdate 24 (.map (some B)) (refV i) (.pointer (some ⟨b30 + 1, 0, none⟩))).run Yba.prog (W2.setCell ⟨Mo, 0, none⟩ v2).drew = .ok () W4 ∧ Inv w W4 Mo B (i + 1) (fun j => if j = i then b30 + 1 else E j) v2 (fun _ => none) [] := by
  have hI1 := hI.later hb2
  have keep2 : ∀ (b : Nat) (x : Obj), W1.heap[b]? = some x → (∀ c f, x ≠ Obj.cells c 32 f) → W2.heap[b]? = some x := fun b x hb hno =>
    grown_old (hI1.own.alloc o) hg b x ((Below.heap_alloc _ _ _ (Array.getElem?_eq_some_iff.1 hb).1).trans hb) hno
  have hM2 := keep2 _ _ hI1.model (fun c f e => by cases e)
  have hM3 : (W2.setCell ⟨Mo, 0, none⟩ v2).heap[Mo]? = some (.cells #[v2, .map (some B)] 27 (0, 0)) := heap_setAt _ _ _ _ _ _ hM2
  have keep3 : ∀ (b : Nat) (x : Obj), W1.heap[b]? = some x → (∀ c f, x ≠ Obj.cells c 32 f) → (∀ c f, x ≠ Obj.cells c 27 f) → (W2.setCell ⟨Mo, 0, none⟩ v2).heap[b]? = some x := fun b x hb hno hno' => by
    have hne : b ≠ Mo := fun e => by
      subst e
      rw [hI1.model] at hb
      cases hb
      exact hno' _ _ rfl
    rw [Below.heap_setCell _ _ _ _ hne]
    exact keep2 b x hb hno
  have hown3 : (W2.setCell ⟨Mo, 0, none⟩ v2).ownsRow w.heap.size 32 1 v2 (i + 1) (ptrs E i ++ [.pointer (some ⟨b30 + 1, 0, none⟩)]) := ownsRow_far hown2 (fun b cur _ hb => by
    have hne : b ≠ Mo := fun e => by
      subst e
      rw [hM2] at hb
      cases hb
    rw [Below.heap_setCell _ _ _ _ hne]
    exact hb)
  have hb3 : Below w.heap.size w (W2.setCell ⟨Mo, 0, none⟩ v2).drew := by
    have h1 := hI1.below.alloc hI1.below.size o
    exact ((h1.grown hg h1.size (fun k hk => (hI1.own.lt k hk).1)).setCell hI.hMo _).drew
  have hB3 := keep3 _ _ hI1.byRef (fun c f e => by cases e) (fun c f e => by cases e)
  have h37' := keep3 _ _ h37 (fun c f e => by cases e) (fun c f e => by cases e)
  have hput := put_ref (w := (W2.setCell ⟨Mo, 0, none⟩ v2).drew) (E := E) i h3 (by exact hB3) (b30 + 1)
  have ne : ∀ (b : Nat) (x : Obj), (W2.setCell ⟨Mo, 0, none⟩ v2).heap[b]? = some x → (∀ es c, x ≠ .map es c) → b ≠ B := fun b x hb hno e => by
    subst e
    rw [hB3] at hb
    cases hb
    exact hno _ _ rfl
  refine ⟨hM3, keep3 _ _ h30 (fun c f e => by cases e) (fun c f e => by cases e), _, hput, ?_⟩
  refine hI.grow (below_setObj hb3 hI.hB _) (by omega) ?_ ?_ ?_ ?_ (fun j hj => ?_)
  · rw [heap_setObj _ _ _ _ (ne _ _ hM3 (fun es c e => by cases e))]
    exact hM3
  · exact ownsRow_far hown3 (fun b cur _ hb => by
      rw [heap_setObj _ _ _ _ (ne _ _ hb (fun es c e => by cases e))]
      exact hb)
  · exact heap_setObj_at _ _ _ _ hB3
  · rw [heap_setObj _ _ _ _ (ne _ _ h37' (fun es c e => by cases e))]
    exact h37'
  · have hj' := keep3 _ _ (hI1.ent j hj) (fun c f e => by cases e) (fun c f e => by cases e)
    rw [heap_setObj _ _ _ _ (ne _ _ hj' (fun es c e => by cases e)), hI.ent j hj]
    exact hj'

/-- The table's row is grown. -/
theorem St.app {w wr wx : World} {Mo B : Nat} {E : Nat → Nat} {v v7 v' : Value} {T : List Ent} {mo : Nat → Option Nat} {x : Ent} (hI : Inv w wr Mo B 3 E v mo (putE x T)) (hown : wr.ownsRow w.heap.size 52 6 v7 T.length (T.flatMap Ent.cells)) (hone : NoTwice T) (hf : fnd x.e x.s x.p T = none)
    (hown' : wx.ownsRow w.heap.size 52 6 v' (T.length + 1) (T.flatMap Ent.cells ++ x.cells)) (hg : wr.grownBy wx v7.ownBlock) : ∃ ao' cp', v' = .slice ao' (putE x T).length cp' ∧ St w wx Mo B E v ao' cp' (putE x T) := by
  have hpa := put_app hf
  have hl : (putE x T).length = T.length + 1 := by rw [hpa, List.length_append]; rfl
  obtain ⟨ao', cp', rfl⟩ := own_slice hown'
  refine ⟨ao', cp', by rw [hl], ⟨mo, hI.keep (hI.below.grown hg hI.below.size (fun k hk => (hown.lt k hk).1)) (fun b o hb hno _ => grown_old hown hg b o hb hno)⟩, ?_, put_noTwice x T hone⟩
  rw [hl, hpa, List.flatMap_append, List.flatMap_cons, List.flatMap_nil, List.append_nil]
  exact hown'

end Go.Proofs.Ybulkbwfg
