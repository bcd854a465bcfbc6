/-
  LawS3633AScript: what the law asks of the model at the end, plainly.
-/
import Derived.Test.YbulkbwfgScriptStart
import Derived.LaidEql
namespace Go.Proofs.Ybulkbwfg
open Go.RowKit Go.Proofs

theorem len_ref {w : World} {B c : Nat} {E : Nat → Nat} (hb : w.heap[B]? = some (.map (refEnts E 3).toArray c)) (ty : TypeId) : (Builtin.len_ #[24] ty #[.map (some B)]).run Yba.prog w = .ok (.int .i64 3) w := by
  have hl : (refEnts E 3).length = 3 := rfl
  simp [Builtin.len_, run_underlying Yba.underlying24, MapKept.run_getObj_map hb, goInt, Result.andThen, hl]
theorem len_reps {w : World} {m : Option Nat} {l : List Ent} (h : RepsAt w m l) (ty : TypeId) : (Builtin.len_ #[34] ty #[.map m]).run Yba.prog w = .ok (.int .i64 (l.length : Int)) w := by
  cases m with
  | none =>
    have hn : l = [] := h
    subst hn
    simp [Builtin.len_, run_underlying Yba.underlying34, goInt]
  | some R =>
    have hb : w.heap[R]? = some (.map (ents l 0).toArray l.length) := h
    simp [Builtin.len_, run_underlying Yba.underlying34, MapKept.run_getObj_map hb, goInt, Result.andThen, ents_length]
theorem neq_ref (w : World) (i : Nat) (hi : i < 4) : (binOp .neq 30 (refV i) (refV i)).run Yba.prog w = .ok (.bool false) w := by
  revert i
  refine lt4 ?_ ?_ ?_ ?_ <;> kernel_rfl

theorem info37 : (Yba.prog.info? 37).isSome = true := by kernel_rfl
theorem neq_ptr (w : World) (a : Addr) : (binOp .neq 32 (.pointer (some a)) (.pointer (some a))).run Yba.prog w = .ok (.bool false) w := by
  obtain ⟨j, hj⟩ := Option.isSome_iff_exists.1 info37
  have h : ∀ d : Nat, (Op.equalIn (d + 1) 32 (.pointer (some a)) (.pointer (some a))).run Yba.prog w = .ok true w := fun d => by
    simp [Op.equalIn, run_underlying Yba.underlying32, sizeOf, typeInfo, hj, run_sameAddr_same]
  simp only [binOp]
  simp [Op.equal, Op.maxDepth, h 9999]

theorem lastA_all (o : Option Ent) : (lastA o).all (·.oneCell') = true := by
  cases o with
  | none => exact zall
  | some x => exact repA_all _ _ _ _ _ _

/-! ### How many of an entity's keys stand in the table -/
def cnt (e : Nat) (T : List Ent) : Nat → Nat
  | 0 => 0
  | m + 1 => cnt e T m + if (look e (m / 2) (m % 2) T).isSome = true then 1 else 0
theorem cnt_le (e : Nat) (T : List Ent) : ∀ m, cnt e T m ≤ m
  | 0 => Nat.le_refl _
  | m + 1 => by
    have := cnt_le e T m
    show cnt e T m + (if (look e (m / 2) (m % 2) T).isSome = true then 1 else 0) ≤ m + 1
    split <;> omega
theorem look_cons (e s p : Nat) (y : Ent) (ys : List Ent) : look e s p (y :: ys) = if y.hit e s p then some y else look e s p ys := rfl
theorem cnt_other (e : Nat) (y : Ent) (ys : List Ent) (h : y.e ≠ e) : ∀ m, cnt e (y :: ys) m = cnt e ys m
  | 0 => rfl
  | m + 1 => by
    have hh : ¬ (y.hit e (m / 2) (m % 2) = true) := by unfold Ent.hit; simp [h]
    unfold cnt
    rw [cnt_other e y ys h m, look_cons, if_neg hh]
theorem look_free {e s p : Nat} : ∀ {T : List Ent}, (∀ z ∈ T, ¬ (z.e = e ∧ z.s = s ∧ z.p = p)) → look e s p T = none
  | [], _ => rfl
  | z :: zs, h => by
    have hh : ¬ (z.hit e s p = true) := by
      have := h z (.head _)
      unfold Ent.hit
      simp
      intro h1 h2 h3
      exact this ⟨h1, h2, h3⟩
    rw [look_cons, if_neg hh]
    exact look_free (fun x hx => h x (.tail _ hx))
theorem cnt_same (y : Ent) (ys : List Ent) (hp : y.p < 2) (hf : look y.e y.s y.p ys = none) : ∀ m, cnt y.e (y :: ys) m = cnt y.e ys m + if y.s * 2 + y.p < m then 1 else 0
  | 0 => by simp [cnt]
  | m + 1 => by
    unfold cnt
    rw [cnt_same y ys hp hf m, look_cons]
    by_cases hm : y.s * 2 + y.p = m
    · have e1 : m / 2 = y.s := by omega
      have e2 : m % 2 = y.p := by omega
      have hh : y.hit y.e (m / 2) (m % 2) = true := by unfold Ent.hit; simp [e1, e2]
      rw [if_pos hh, e1, e2, hf]
      have a1 : ¬ (y.s * 2 + y.p < m) := by omega
      have a2 : y.s * 2 + y.p < m + 1 := by omega
      simp [a1, a2]
    · have hh : ¬ (y.hit y.e (m / 2) (m % 2) = true) := by
        unfold Ent.hit
        simp
        intro h1 h2
        omega
      rw [if_neg hh]
      by_cases hl : y.s * 2 + y.p < m
      · rw [if_pos hl, if_pos (show y.s * 2 + y.p < m + 1 by omega)]
        omega
      · rw [if_neg hl, if_neg (show ¬ (y.s * 2 + y.p < m + 1) by omega)]
        omega
theorem cnt_all (e : Nat) : ∀ T : List Ent, NoTwice T → (∀ x ∈ T, x.ok) → cnt e T 10 = (sub e T).length
  | [], _, _ => rfl
  | y :: ys, h, hok => by
    unfold NoTwice at h
    rw [List.pairwise_cons] at h
    have ih := cnt_all e ys h.2 (fun x hx => hok x (.tail _ hx))
    by_cases he : y.e = e
    · subst he
      have hy := hok y (.head _)
      have hf : look y.e y.s y.p ys = none := look_free (fun z hz hn => h.1 z hz ⟨hn.1.symm, hn.2.1.symm, hn.2.2.symm⟩)
      have h5 := hy.1
      have h2 := hy.2
      rw [cnt_same y ys hy.2 hf 10, ih, if_pos (by omega)]
      unfold sub
      rw [List.filter_cons_of_pos (by simp)]
      rfl
    · rw [cnt_other e y ys he 10, ih]
      unfold sub
      rw [List.filter_cons_of_neg (by simpa using he)]

/-! ### What the walk reads -/
theorem fnd_cases (e s p : Nat) (T : List Ent) : (fndI e s p T = -1 ∧ look e s p T = none) ∨ ∃ (k : Nat) (x : Ent), fndI e s p T = (k : Int) ∧ T[k]? = some x ∧ k < T.length ∧ look e s p T = some x ∧ x.e = e ∧ x.s = s ∧ x.p = p := by
  cases hf : fnd e s p T with
  | none => exact Or.inl ⟨by unfold fndI; rw [hf], look_none hf⟩
  | some k =>
    obtain ⟨x, hx, hl⟩ := look_of_fnd hf
    have h2 := look_hit hl
    refine Or.inr ⟨k, x, by unfold fndI; rw [hf], hx, fnd_lt hf, hl, ?_, h2.1, h2.2⟩
    have hm := look_sub e s p T
    rw [hl] at hm
    exact (sub_mem (look_mem hm)).2

section
variable {w wr : World} {Mo B : Nat} {E : Nat → Nat} {v : Value} {mo : Nat → Option Nat} {T : List Ent}
theorem Inv.slice (h : Inv w wr Mo B 3 E v mo T) : ∃ gv cv, v = .slice (some ⟨gv, 0, none⟩) 3 cv ∧ ∀ i, i < 3 → wr.cell? ⟨gv, i, none⟩ = some (.pointer (some ⟨E i, 0, none⟩)) := by
  rcases h.own.2 with ⟨_, h3⟩ | ⟨g, cap, cur, hv, _⟩
  · omega
  · subst hv
    refine ⟨g, cap, rfl, fun i hi => ?_⟩
    rw [h.own.cellAt i (by omega)]
    unfold ptrs
    match i, hi with
    | 0, _ => rfl
    | 1, _ => rfl
    | 2, _ => rfl
theorem Inv.entCell (h : Inv w wr Mo B 3 E v mo T) (i : Nat) (hi : i < 3) (c : Nat) : wr.cell? ⟨E i, c, none⟩ = (entA i (mo i))[c]? := by
  simp [World.cell?, h.ent i hi]
end
end Go.Proofs.Ybulkbwfg
