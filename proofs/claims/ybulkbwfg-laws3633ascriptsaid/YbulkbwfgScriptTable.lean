/-
  LawS3633AScript: the table of standing reports, plainly; and the map that one entity keeps of it.
-/
import Derived.Test.YbulkbwfgScriptKeys
namespace Go.Proofs.Ybulkbwfg
open Go.RowKit Go.Proofs

structure Ent where
  e : Nat
  s : Nat
  p : Nat
  seq : Int
  st : Int
  desc : ByteArray

def Ent.cells (x : Ent) : List Value := [.int .i64 (x.e : Int), .int .i64 (x.s : Int), .int .i64 (x.p : Int), .int .i64 x.seq, .int .i64 x.st, .string x.desc]
def Ent.rep (x : Ent) : Value := repV x.e x.s x.p x.st x.desc x.seq
def Ent.hit (e s p : Nat) (x : Ent) : Bool := x.e == e && x.s == s && x.p == p

/-- Where the table holds (e, s, p). -/
def fnd (e s p : Nat) : List Ent → Option Nat
  | [] => none
  | y :: ys => if y.hit e s p then some 0 else (fnd e s p ys).map (· + 1)
def look (e s p : Nat) : List Ent → Option Ent
  | [] => none
  | y :: ys => if y.hit e s p then some y else look e s p ys
def putE (x : Ent) : List Ent → List Ent
  | [] => [x]
  | y :: ys => if y.hit x.e x.s x.p then x :: ys else y :: putE x ys

theorem fnd_look (e s p : Nat) : ∀ T : List Ent, (fnd e s p T).bind (fun k => T[k]?) = look e s p T
  | [] => rfl
  | y :: ys => by
    unfold fnd look
    by_cases h : y.hit e s p = true
    · rw [if_pos h, if_pos h]; rfl
    · rw [if_neg h, if_neg h, ← fnd_look e s p ys]
      cases fnd e s p ys <;> rfl
theorem fnd_isSome (e s p : Nat) (T : List Ent) : (fnd e s p T).isSome = (look e s p T).isSome := by
  induction T with
  | nil => rfl
  | cons y ys ih =>
    unfold fnd look
    by_cases h : y.hit e s p = true
    · rw [if_pos h, if_pos h]; rfl
    · rw [if_neg h, if_neg h, ← ih]; simp
theorem fnd_lt {e s p k : Nat} {T : List Ent} (h : fnd e s p T = some k) : k < T.length := by
  induction T generalizing k with
  | nil => cases h
  | cons y ys ih =>
    unfold fnd at h
    by_cases hh : y.hit e s p = true
    · rw [if_pos hh] at h; cases h; simp
    · rw [if_neg hh] at h
      cases hf : fnd e s p ys with
      | none => rw [hf] at h; cases h
      | some q => rw [hf] at h; cases h; have := ih hf; simp; omega
theorem look_of_fnd {e s p k : Nat} {T : List Ent} (h : fnd e s p T = some k) : ∃ x, T[k]? = some x ∧ look e s p T = some x := by
  have hk := fnd_lt h
  have := fnd_look e s p T
  rw [h] at this
  refine ⟨T[k], List.getElem?_eq_getElem hk, ?_⟩
  rw [← this]
  simp [List.getElem?_eq_getElem hk]
theorem look_none {e s p : Nat} {T : List Ent} (h : fnd e s p T = none) : look e s p T = none := by
  have := fnd_isSome e s p T
  rw [h] at this
  cases hl : look e s p T with
  | none => rfl
  | some x => rw [hl] at this; cases this
theorem look_hit {e s p : Nat} {T : List Ent} {y : Ent} (h : look e s p T = some y) : y.s = s ∧ y.p = p := by
  induction T with
  | nil => cases h
  | cons z zs ih =>
    unfold look at h
    by_cases hh : z.hit e s p = true
    · rw [if_pos hh] at h
      cases h
      unfold Ent.hit at hh
      simp at hh
      exact ⟨hh.1.2, hh.2⟩
    · rw [if_neg hh] at h; exact ih h
theorem put_set {x : Ent} {T : List Ent} {k : Nat} (h : fnd x.e x.s x.p T = some k) : putE x T = T.set k x := by
  induction T generalizing k with
  | nil => cases h
  | cons y ys ih =>
    unfold fnd at h
    unfold putE
    by_cases hh : y.hit x.e x.s x.p = true
    · rw [if_pos hh] at h ⊢; cases h; rfl
    · rw [if_neg hh] at h ⊢
      cases hf : fnd x.e x.s x.p ys with
      | none => rw [hf] at h; cases h
      | some q => rw [hf] at h; cases h; rw [ih hf]; rfl
theorem put_app {x : Ent} {T : List Ent} (h : fnd x.e x.s x.p T = none) : putE x T = T ++ [x] := by
  induction T with
  | nil => rfl
  | cons y ys ih =>
    unfold fnd at h
    unfold putE
    by_cases hh : y.hit x.e x.s x.p = true
    · rw [if_pos hh] at h; cases h
    · rw [if_neg hh] at h ⊢
      cases hf : fnd x.e x.s x.p ys with
      | none => rw [ih hf]; rfl
      | some q => rw [hf] at h; cases h

/-! ### One entity's share -/
def sub (e : Nat) (T : List Ent) : List Ent := T.filter (fun x => x.e == e)
theorem sub_put_same (x : Ent) : ∀ T : List Ent, sub x.e (putE x T) = putE x (sub x.e T)
  | [] => by simp [putE, sub]
  | y :: ys => by
    have ih := sub_put_same x ys
    unfold sub at ih ⊢
    unfold putE
    by_cases hh : y.hit x.e x.s x.p = true
    · have hy : (y.e == x.e) = true := by unfold Ent.hit at hh; revert hh; cases (y.e == x.e) <;> simp
      rw [if_pos hh, List.filter_cons_of_pos (by simp), List.filter_cons_of_pos (by simpa using hy)]
      show _ = if y.hit x.e x.s x.p then _ else _
      rw [if_pos hh]
    · rw [if_neg hh]
      by_cases hy : (y.e == x.e) = true
      · rw [List.filter_cons_of_pos (by simpa using hy), List.filter_cons_of_pos (by simpa using hy), ih]
        show _ = if y.hit x.e x.s x.p then _ else _
        rw [if_neg hh]
      · rw [List.filter_cons_of_neg (by simpa using hy), List.filter_cons_of_neg (by simpa using hy), ih]
        cases hs : List.filter (fun x_1 => x_1.e == x.e) ys <;> rfl
theorem sub_put_other (x : Ent) (e : Nat) (he : e ≠ x.e) : ∀ T : List Ent, sub e (putE x T) = sub e T
  | [] => by simp [putE, sub]; omega
  | y :: ys => by
    have ih := sub_put_other x e he ys
    unfold sub at ih ⊢
    unfold putE
    by_cases hh : y.hit x.e x.s x.p = true
    · have hy : y.e = x.e := by unfold Ent.hit at hh; simp at hh; exact hh.1.1
      rw [if_pos hh, List.filter_cons_of_neg (by simp; omega), List.filter_cons_of_neg (by simp; omega)]
    · rw [if_neg hh, List.filter_cons, List.filter_cons, ih]
theorem look_sub (e s p : Nat) : ∀ T : List Ent, look e s p (sub e T) = look e s p T
  | [] => rfl
  | y :: ys => by
    have ih := look_sub e s p ys
    unfold sub at ih ⊢
    by_cases hy : (y.e == e) = true
    · rw [List.filter_cons_of_pos (by simpa using hy)]
      unfold look
      rw [ih]
    · rw [List.filter_cons_of_neg (by simpa using hy), ih]
      have hh : ¬ (y.hit e s p = true) := by unfold Ent.hit; simp at hy; simp [hy]
      conv => rhs; unfold look
      rw [if_neg hh]

/-- The entries of an entity's map. -/
def ents : List Ent → Nat → List MapEntry
  | [], _ => []
  | x :: xs, i => { key := keyV x.s x.p, val := x.rep, born := i } :: ents xs (i + 1)

def Ent.ok (x : Ent) : Prop := x.s < 5 ∧ x.p < 2

theorem ents_length : ∀ (l : List Ent) (i : Nat), (ents l i).length = l.length
  | [], _ => rfl
  | _ :: xs, i => by simp [ents, ents_length xs (i + 1)]
theorem ents_snoc (x : Ent) : ∀ (l : List Ent) (i : Nat), ents (l ++ [x]) i = ents l i ++ [({ key := keyV x.s x.p, val := x.rep, born := i + l.length } : MapEntry)]
  | [], i => rfl
  | y :: ys, i => by
    show _ :: ents (ys ++ [x]) (i + 1) = _ :: (ents ys (i + 1) ++ _)
    rw [ents_snoc x ys (i + 1), List.length_cons]
    rw [show i + 1 + ys.length = i + (ys.length + 1) by omega]
theorem ents_get : ∀ (l : List Ent) (i k : Nat) (x : Ent), l[k]? = some x → (ents l i)[k]? = some { key := keyV x.s x.p, val := x.rep, born := i + k }
  | [], _, k, x, h => by simp at h
  | y :: ys, i, 0, x, h => by
    simp at h
    subst h
    rfl
  | y :: ys, i, k + 1, x, h => by
    have := ents_get ys (i + 1) k x (by simpa using h)
    show (ents ys (i + 1))[k]? = _
    rw [this, show i + 1 + k = i + (k + 1) by omega]
theorem ents_set (x : Ent) : ∀ (l : List Ent) (i k : Nat), k < l.length → ents (l.set k x) i = (ents l i).set k { key := keyV x.s x.p, val := x.rep, born := i + k }
  | [], _, k, h => by simp at h
  | y :: ys, i, 0, _ => rfl
  | y :: ys, i, k + 1, h => by
    show _ :: ents (ys.set k x) (i + 1) = _ :: (ents ys (i + 1)).set k _
    rw [ents_set x ys (i + 1) k (by simpa using h), show i + 1 + k = i + (k + 1) by omega]

/-- Which entries are at the key (s, p): told by the key alone. -/
noncomputable def isAt (w : World) (s p : Nat) (en : MapEntry) : Bool := match (Op.equal 58 (keyV s p) en.key).run Yba.prog w with
  | .ok b _ => b
  | _ => false
theorem isAt_key (w : World) (s p s' p' : Nat) (hs : s < 5) (hp : p < 2) (hs' : s' < 5) (hp' : p' < 2) (v : Value) (i : Nat) : isAt w s p { key := keyV s' p', val := v, born := i } = (s == s' && p == p') := by
  unfold isAt
  rw [equal_key w s p s' p' hs hp hs' hp']
theorem ents_equal (w : World) (s p : Nat) (hs : s < 5) (hp : p < 2) : ∀ (l : List Ent) (i : Nat), (∀ x ∈ l, x.ok) → ∀ en ∈ ents l i, (Op.equal 58 (keyV s p) en.key).run Yba.prog w = .ok (isAt w s p en) w
  | [], _, _, en, h => by cases h
  | y :: ys, i, hok, en, h => by
    cases h with
    | head =>
      have hy := hok y (.head _)
      rw [isAt_key w s p y.s y.p hs hp hy.1 hy.2]
      exact equal_key w s p y.s y.p hs hp hy.1 hy.2
    | tail _ h => exact ents_equal w s p hs hp ys (i + 1) (fun x hx => hok x (.tail _ hx)) en h
theorem ents_find (w : World) (e s p : Nat) (hs : s < 5) (hp : p < 2) : ∀ (l : List Ent) (i q : Nat), (∀ x ∈ l, x.ok ∧ x.e = e) → findIn (isAt w s p) (ents l i) q = (fnd e s p l).bind fun k => (l[k]?).map fun x => (q + k, x.rep)
  | [], _, _, _ => rfl
  | y :: ys, i, q, hok => by
    obtain ⟨hy, hye⟩ := hok y (.head _)
    have ih := ents_find w e s p hs hp ys (i + 1) (q + 1) (fun x hx => hok x (.tail _ hx))
    unfold ents findIn fnd
    have hh : y.hit e s p = (s == y.s && p == y.p) := by
      unfold Ent.hit
      rw [hye]
      simp [Bool.beq_comm]
    rw [isAt_key w s p y.s y.p hs hp hy.1 hy.2, hh]
    by_cases hb : (s == y.s && p == y.p) = true
    · rw [if_pos hb, if_pos hb]; rfl
    · rw [if_neg hb, if_neg hb, ih]
      cases fnd e s p ys with
      | none => rfl
      | some k => simp; rw [show q + 1 + k = q + (k + 1) by omega]

/-- What an entity's map answers. -/
def repAt (e s p : Nat) (l : List Ent) : Value := ((look e s p l).map Ent.rep).getD zRep

theorem find_rep (w : World) (e s p : Nat) (hs : s < 5) (hp : p < 2) (l : List Ent) (hl : ∀ x ∈ l, x.ok ∧ x.e = e) : (findIn (isAt w s p) (ents l 0) 0).map (·.2) = (look e s p l).map Ent.rep ∧ (findIn (isAt w s p) (ents l 0) 0).isSome = (look e s p l).isSome := by
  rw [ents_find w e s p hs hp l 0 0 hl]
  cases h : fnd e s p l with
  | none => rw [look_none h]; exact ⟨rfl, rfl⟩
  | some k =>
    obtain ⟨x, h1, h2⟩ := look_of_fnd h
    rw [h2]
    simp [h1]

theorem look_rep {w : World} {R c : Nat} {l : List Ent} (hb : w.heap[R]? = some (.map (ents l 0).toArray c)) (e s p : Nat) (hs : s < 5) (hp : p < 2) (hl : ∀ x ∈ l, x.ok ∧ x.e = e) (ok : Bool) :
    (Instr.lookup 34 (.map (some R)) (keyV s p) ok).run Yba.prog w = .ok (if ok then .tuple #[repAt e s p l, .bool (look e s p l).isSome] else repAt e s p l) w := by
  have h := run_lookStruct Yba.underlying34 Yba.underlying58 hb (fun c => check_key w c s p hs hp) (zero49 w) (ents_equal w s p hs hp l 0 (fun x hx => (hl x hx).1)) ok
  obtain ⟨h1, h2⟩ := find_rep w e s p hs hp l hl
  rw [h1, h2] at h
  exact h

theorem look_norep (w : World) (s p : Nat) (hs : s < 5) (hp : p < 2) (ok : Bool) : (Instr.lookup 34 (.map none) (keyV s p) ok).run Yba.prog w = .ok (if ok then .tuple #[zRep, .bool false] else zRep) w :=
  run_lookNone Yba.underlying34 Yba.underlying58 (fun c => check_key w c s p hs hp) (zero49 w) ok

theorem sameBits_key (s p : Nat) : Instr.sameBits 10000 (keyV s p) (keyV s p) = true := by
  simp [keyV, Instr.sameBits, MapKept.bytes_beq]

/-- A report is laid into an entity's map. -/
theorem put_rep {w : World} {R : Nat} {l : List Ent} (hb : w.heap[R]? = some (.map (ents l 0).toArray l.length)) (x : Ent) (hx : x.ok) (hl : ∀ y ∈ l, y.ok ∧ y.e = x.e) :
    (Instr.mapUpdate 34 (.map (some R)) (keyV x.s x.p) x.rep).run Yba.prog w = .ok () { w with heap := w.heap.setIfInBounds R (.map (ents (putE x l) 0).toArray (putE x l).length) } := by
  have hf := ents_find w x.e x.s x.p hx.1 hx.2 l 0 0 hl
  have he := ents_equal w x.s x.p hx.1 hx.2 l 0 (fun y hy => (hl y hy).1)
  cases h : fnd x.e x.s x.p l with
  | none =>
    rw [h] at hf
    rw [put_app h, ents_snoc, Nat.zero_add, List.length_append]
    exact run_putStruct Yba.underlying34 Yba.underlying58 hb (fun c => check_key w c x.s x.p hx.1 hx.2) he hf
  | some k =>
    obtain ⟨y, h1, _⟩ := look_of_fnd h
    have hk := fnd_lt h
    rw [h] at hf
    simp only [Option.bind_some, h1, Option.map_some, Nat.zero_add] at hf
    have hy : y.s = x.s ∧ y.p = x.p := by
      have hq := fnd_look x.e x.s x.p l
      rw [h] at hq
      simp only [Option.bind_some, h1] at hq
      exact look_hit hq.symm
    rw [put_set h, ents_set x l 0 k hk, Nat.zero_add, List.length_set]
    refine run_setStruct Yba.underlying34 Yba.underlying58 hb (fun c => check_key w c x.s x.p hx.1 hx.2) he hf _ (ents_get l 0 k y h1) ?_ |>.trans ?_
    · rw [hy.1, hy.2]; exact sameBits_key _ _
    · rw [Nat.zero_add]

/-! ### The model's map of its entities -/
def refEnts (E : Nat → Nat) (i : Nat) : List MapEntry := (List.range i).map fun j => { key := refV j, val := .pointer (some ⟨E j, 0, none⟩), born := j }
noncomputable def isRef (w : World) (j : Nat) (en : MapEntry) : Bool := match (Op.equal 30 (refV j) en.key).run Yba.prog w with
  | .ok b _ => b
  | _ => false
theorem isRef_key (w : World) (j k : Nat) (hj : j < 4) (hk : k < 4) (v : Value) (i : Nat) : isRef w j { key := refV k, val := v, born := i } = (j == k) := by
  unfold isRef
  rw [equal_ref w j k hj hk]
theorem refEnts_equal (w : World) (E : Nat → Nat) (i j : Nat) (hi : i ≤ 3) (hj : j < 4) : ∀ en ∈ refEnts E i, (Op.equal 30 (refV j) en.key).run Yba.prog w = .ok (isRef w j en) w := fun en h => by
  obtain ⟨k, hk, rfl⟩ := List.mem_map.1 h
  have := List.mem_range.1 hk
  rw [isRef_key w j k hj (by omega)]
  exact equal_ref w j k hj (by omega)
def refAt (E : Nat → Nat) (j : Nat) : Value := if j < 3 then .pointer (some ⟨E j, 0, none⟩) else .pointer none
theorem look_ref {w : World} {B c : Nat} {E : Nat → Nat} (hb : w.heap[B]? = some (.map (refEnts E 3).toArray c)) (j : Nat) (hj : j < 4) (ok : Bool) :
    (Instr.lookup 24 (.map (some B)) (refV j) ok).run Yba.prog w = .ok (if ok then .tuple #[refAt E j, .bool (decide (j < 3))] else refAt E j) w := by
  have h := run_lookStruct Yba.underlying24 Yba.underlying30 hb (fun c => check_ref w c j hj) (zero32 w) (refEnts_equal w E 3 j (by omega) hj) ok
  have hf : findIn (isRef w j) (refEnts E 3) 0 = if j < 3 then some (j, .pointer (some ⟨E j, 0, none⟩)) else none := by
    have e3 : refEnts E 3 = [({ key := refV 0, val := .pointer (some ⟨E 0, 0, none⟩), born := 0 } : MapEntry), { key := refV 1, val := .pointer (some ⟨E 1, 0, none⟩), born := 1 }, { key := refV 2, val := .pointer (some ⟨E 2, 0, none⟩), born := 2 }] := rfl
    rw [e3]
    simp only [findIn]
    rw [isRef_key w j 0 hj (by omega), isRef_key w j 1 hj (by omega), isRef_key w j 2 hj (by omega)]
    match j, hj with
    | 0, _ => rfl
    | 1, _ => rfl
    | 2, _ => rfl
    | 3, _ => rfl
  rw [hf] at h
  rw [h]
  unfold refAt
  by_cases h3 : j < 3
  · simp [h3]
  · simp [h3]
theorem put_ref {w : World} {B : Nat} {E : Nat → Nat} (i : Nat) (hi : i < 3) (hb : w.heap[B]? = some (.map (refEnts E i).toArray i)) (b : Nat) :
    (Instr.mapUpdate 24 (.map (some B)) (refV i) (.pointer (some ⟨b, 0, none⟩))).run Yba.prog w = .ok () { w with heap := w.heap.setIfInBounds B (.map (refEnts (fun j => if j = i then b else E j) (i + 1)).toArray (i + 1)) } := by
  have hn : findIn (isRef w i) (refEnts E i) 0 = none := by
    match i, hi with
    | 0, _ => rfl
    | 1, _ =>
      show findIn (isRef w 1) [{ key := refV 0, val := _, born := 0 }] 0 = none
      simp only [findIn]
      rw [isRef_key w 1 0 (by omega) (by omega)]
      rfl
    | 2, _ =>
      show findIn (isRef w 2) [{ key := refV 0, val := _, born := 0 }, { key := refV 1, val := _, born := 1 }] 0 = none
      simp only [findIn]
      rw [isRef_key w 2 0 (by omega) (by omega), isRef_key w 2 1 (by omega) (by omega)]
      rfl
  have h := run_putStruct (v := .pointer (some ⟨b, 0, none⟩)) Yba.underlying24 Yba.underlying30 hb (fun c => check_ref w c i (by omega)) (refEnts_equal w E i i (by omega) (by omega)) hn
  rw [h]
  have e : refEnts (fun j => if j = i then b else E j) (i + 1) = refEnts E i ++ [({ key := refV i, val := .pointer (some ⟨b, 0, none⟩), born := i } : MapEntry)] := by
    unfold refEnts
    rw [List.range_succ, List.map_append]
    congr 1
    · refine List.map_congr_left fun j hj => ?_
      have := List.mem_range.1 hj
      have hne : j ≠ i := by omega
      simp [hne]
    · simp
  rw [e]
end Go.Proofs.Ybulkbwfg
