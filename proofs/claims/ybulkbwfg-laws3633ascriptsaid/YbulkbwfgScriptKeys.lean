/-
  LawS3633AScript: the plain data (entities, sources, properties, reports), the keys of its two maps, and how a map keyed by a struct is looked up and written.
-/
import Derived.Test.YbulkbwfgProg
import Derived.WalkKit
import Derived.WalkSpells
import Derived.MapKept
namespace Go.Proofs.Ybulkbwfg
open Go.RowKit Go.Proofs

def kindB : Nat → ByteArray
  | 0 => { data := #[67, 108, 117, 115, 116, 101, 114] }
  | _ => { data := #[78, 111, 100, 101] }
def nameB : Nat → ByteArray
  | 0 => { data := #[] }
  | 1 => { data := #[97] }
  | 2 => { data := #[98] }
  | _ => { data := #[99] }
def srcB : Nat → ByteArray
  | 0 => { data := #[115] }
  | 1 => { data := #[83, 121, 115, 116, 101, 109, 46] }
  | 2 => { data := #[83, 121, 115] }
  | 3 => { data := #[83, 121, 115, 116, 101, 109, 46, 120] }
  | _ => { data := #[83, 121, 115, 116, 101, 109, 115] }
def propB : Nat → ByteArray
  | 0 => { data := #[112] }
  | _ => { data := #[113] }
def nilS : Value := .string { data := #[] }
def refV (e : Nat) : Value := .agg #[.string (kindB e), .string (nameB e), .string { data := #[] }, .string { data := #[] }, .string { data := #[] }, .string { data := #[] }, .string { data := #[] }, .string { data := #[] }]
def keyV (s p : Nat) : Value := .agg #[.string (srcB s), .string (propB p)]

/-- The zero report; a report. -/
def zRep : Value := .agg #[.string { data := #[] }, .string { data := #[] }, .string { data := #[] }, .string { data := #[] }, .string { data := #[] }, .string { data := #[] }, .string { data := #[] }, .string { data := #[] },
  .string { data := #[] }, .string { data := #[] }, .int .i64 0, .string { data := #[] }, .pointer none, .bool false, .int .i64 0, .int .u64 0, .int .i64 0, .pointer none]
def repV (e s p : Nat) (st : Int) (desc : ByteArray) (seq : Int) : Value := .agg #[.string (kindB e), .string (nameB e), .string { data := #[] }, .string { data := #[] }, .string { data := #[] }, .string { data := #[] }, .string { data := #[] }, .string { data := #[] },
  .string (srcB s), .string (propB p), .int .i64 st, .string desc, .pointer none, .bool false, .int .i64 seq, .int .u64 0, .int .i64 0, .pointer none]

theorem zero49 (w : World) : (zeroValue 49).run Yba.prog w = .ok zRep w := by kernel_rfl
theorem zero32 (w : World) : (zeroValue 32).run Yba.prog w = .ok (.pointer none) w := by kernel_rfl

theorem lt4 {p : Nat → Prop} (h0 : p 0) (h1 : p 1) (h2 : p 2) (h3 : p 3) : ∀ i, i < 4 → p i := fun i hi => by
  match i, hi with
  | 0, _ => exact h0
  | 1, _ => exact h1
  | 2, _ => exact h2
  | 3, _ => exact h3
theorem lt5 {p : Nat → Prop} (h0 : p 0) (h1 : p 1) (h2 : p 2) (h3 : p 3) (h4 : p 4) : ∀ i, i < 5 → p i := fun i hi => by
  match i, hi with
  | 0, _ => exact h0
  | 1, _ => exact h1
  | 2, _ => exact h2
  | 3, _ => exact h3
  | 4, _ => exact h4
theorem lt2 {p : Nat → Prop} (h0 : p 0) (h1 : p 1) : ∀ i, i < 2 → p i := fun i hi => by
  match i, hi with
  | 0, _ => exact h0
  | 1, _ => exact h1

theorem equal_ref (w : World) (i j : Nat) (hi : i < 4) (hj : j < 4) : (Op.equal 30 (refV i) (refV j)).run Yba.prog w = .ok (i == j) w := by
  revert i
  refine lt4 ?_ ?_ ?_ ?_ <;> revert j <;> refine lt4 ?_ ?_ ?_ ?_ <;> kernel_rfl

theorem equal_key (w : World) (s p s' p' : Nat) (hs : s < 5) (hp : p < 2) (hs' : s' < 5) (hp' : p' < 2) : (Op.equal 58 (keyV s p) (keyV s' p')).run Yba.prog w = .ok (s == s' && p == p') w := by
  revert s
  refine lt5 ?_ ?_ ?_ ?_ ?_ <;> revert p <;> refine lt2 ?_ ?_ <;> revert s' <;> refine lt5 ?_ ?_ ?_ ?_ ?_ <;> revert p' <;> refine lt2 ?_ ?_ <;> kernel_rfl

theorem check_ref (w : World) (b : Bool) (i : Nat) (hi : i < 4) : (Instr.checkKey b 10000 30 (refV i)).run Yba.prog w = .ok () w := by
  revert i
  refine lt4 ?_ ?_ ?_ ?_ <;> cases b <;> kernel_rfl
theorem check_key (w : World) (b : Bool) (s p : Nat) (hs : s < 5) (hp : p < 2) : (Instr.checkKey b 10000 58 (keyV s p)).run Yba.prog w = .ok () w := by
  revert s
  refine lt5 ?_ ?_ ?_ ?_ ?_ <;> revert p <;> refine lt2 ?_ ?_ <;> cases b <;> kernel_rfl

/-! ### A map keyed by a struct: the key's place, the look-up, the store -/
def findIn (b : MapEntry → Bool) : List MapEntry → Nat → Option (Nat × Value)
  | [], _ => none
  | e :: es, i => if b e then some (i, e.val) else findIn b es (i + 1)

theorem run_findAsking {P : Program} {w : World} {kt : TypeId} {k : Value} {b : MapEntry → Bool} : ∀ (es : List MapEntry) (i : Nat), (∀ e ∈ es, (Op.equal kt k e.key).run P w = .ok (b e) w) → (Instr.findAsking kt k es i).run P w = .ok (findIn b es i) w
  | [], _, _ => rfl
  | e :: es, i, h => by
    have h1 := h e (.head _)
    have h2 := run_findAsking es (i + 1) (fun x hx => h x (.tail _ hx))
    unfold Instr.findAsking findIn
    simp only [Sem.run_bind, h1, Result.andThen_ok]
    by_cases hb : b e = true
    · rw [if_pos hb, if_pos hb]; rfl
    · rw [if_neg hb, if_neg hb]; exact h2

theorem sameNow_struct (fs : Array Field) (a b : Value) : Instr.sameNow (.struct fs) a b = none := by
  cases a <;> cases b <;> rfl

theorem run_findStruct {P : Program} {w : World} {kt : TypeId} {fs : Array Field} {k : Value} {b : MapEntry → Bool} (hu : P.underlying kt = some (.struct fs)) (es : List MapEntry) (h : ∀ e ∈ es, (Op.equal kt k e.key).run P w = .ok (b e) w) :
    (Instr.findKey kt k es).run P w = .ok (findIn b es 0) w := by
  unfold Instr.findKey
  simp only [Sem.run_bind, run_underlying hu, Result.andThen_ok]
  cases es with
  | nil => rfl
  | cons e es =>
    have : Instr.findNow (.struct fs) k (e :: es) 0 = none := by unfold Instr.findNow; rw [sameNow_struct]
    rw [this]
    exact run_findAsking _ 0 h

theorem run_lookStruct {P : Program} {w : World} {t kt et : TypeId} {fs : Array Field} {k z : Value} {b : MapEntry → Bool} {B clock : Nat} {es : List MapEntry} (ht : P.underlying t = some (.map kt et)) (hu : P.underlying kt = some (.struct fs)) (hb : w.heap[B]? = some (.map es.toArray clock))
    (hc : ∀ c, (Instr.checkKey c 10000 kt k).run P w = .ok () w) (hz : (zeroValue et).run P w = .ok z w) (h : ∀ e ∈ es, (Op.equal kt k e.key).run P w = .ok (b e) w) (ok : Bool) :
    (Instr.lookup t (.map (some B)) k ok).run P w = .ok (if ok then .tuple #[((findIn b es 0).map (·.2)).getD z, .bool (findIn b es 0).isSome] else ((findIn b es 0).map (·.2)).getD z) w := by
  have hg : (getObj B).run P w = .ok (.map es.toArray clock) w := by simp [getObj, Sem.run, hb]
  unfold Instr.lookup
  simp only [Sem.run_bind, run_underlying ht, Result.andThen_ok, hg, Sem.run_pure, hc, run_findStruct hu es h]
  cases findIn b es 0 with
  | none => simp only [Sem.run_bind, hz, Result.andThen_ok, Sem.run_pure]; cases ok <;> rfl
  | some r => cases ok <;> rfl

theorem run_lookNone {P : Program} {w : World} {t kt et : TypeId} {fs : Array Field} {k z : Value} (ht : P.underlying t = some (.map kt et)) (hu : P.underlying kt = some (.struct fs))
    (hc : ∀ c, (Instr.checkKey c 10000 kt k).run P w = .ok () w) (hz : (zeroValue et).run P w = .ok z w) (ok : Bool) :
    (Instr.lookup t (.map none) k ok).run P w = .ok (if ok then .tuple #[z, .bool false] else z) w := by
  have h := run_findStruct (P := P) (w := w) (k := k) (b := fun _ => false) hu [] (by simp)
  unfold Instr.lookup
  simp only [Sem.run_bind, run_underlying ht, Result.andThen_ok, Sem.run_pure, hc]
  simp only [h, findIn, Sem.run_bind, hz, Result.andThen_ok, Sem.run_pure]

theorem run_putStruct {P : Program} {w : World} {t kt et : TypeId} {fs : Array Field} {k v : Value} {b : MapEntry → Bool} {B clock : Nat} {es : List MapEntry} (ht : P.underlying t = some (.map kt et)) (hu : P.underlying kt = some (.struct fs)) (hb : w.heap[B]? = some (.map es.toArray clock))
    (hc : ∀ c, (Instr.checkKey c 10000 kt k).run P w = .ok () w) (h : ∀ e ∈ es, (Op.equal kt k e.key).run P w = .ok (b e) w) (hn : findIn b es 0 = none) :
    (Instr.mapUpdate t (.map (some B)) k v).run P w = .ok () { w with heap := w.heap.setIfInBounds B (.map (es ++ [({ key := k, val := v, born := clock } : MapEntry)]).toArray (clock + 1)) } := by
  have hg : (getObj B).run P w = .ok (.map es.toArray clock) w := by simp [getObj, Sem.run, hb]
  have hso : ∀ o, (setObj B o).run P w = .ok () { w with heap := w.heap.setIfInBounds B o } := fun o => by simp [setObj, Sem.run, hb]
  unfold Instr.mapUpdate
  simp only [Sem.run_bind, run_underlying ht, Result.andThen_ok, hg, hc, run_findStruct hu es h, hn, hso]
  simp

theorem run_setStruct {P : Program} {w : World} {t kt et : TypeId} {fs : Array Field} {k v u : Value} {b : MapEntry → Bool} {B clock i : Nat} {es : List MapEntry} (ht : P.underlying t = some (.map kt et)) (hu : P.underlying kt = some (.struct fs)) (hb : w.heap[B]? = some (.map es.toArray clock))
    (hc : ∀ c, (Instr.checkKey c 10000 kt k).run P w = .ok () w) (h : ∀ e ∈ es, (Op.equal kt k e.key).run P w = .ok (b e) w) (hn : findIn b es 0 = some (i, u)) (e : MapEntry) (hi : es[i]? = some e) (hk : Instr.sameBits 10000 e.key k = true) :
    (Instr.mapUpdate t (.map (some B)) k v).run P w = .ok () { w with heap := w.heap.setIfInBounds B (.map (es.set i { e with key := k, val := v }).toArray clock) } := by
  have hlt : i < es.length := (List.getElem?_eq_some_iff.1 hi).1
  have he : es[i] = e := (List.getElem?_eq_some_iff.1 hi).2
  have hg : (getObj B).run P w = .ok (.map es.toArray clock) w := by simp [getObj, Sem.run, hb]
  have hso : ∀ o, (setObj B o).run P w = .ok () { w with heap := w.heap.setIfInBounds B o } := fun o => by simp [setObj, Sem.run, hb]
  unfold Instr.mapUpdate
  simp only [Sem.run_bind, run_underlying ht, Result.andThen_ok, hg, hc, run_findStruct hu es h, hn, Instr.keyThatStays, List.getElem?_toArray, hi, Option.map_some, Option.getD_some, hk, if_true, Sem.run_pure, hso]
  congr 5
  apply Array.ext'
  rw [Array.toList_modify]
  show es.modify i _ = es.set i _
  apply List.ext_getElem?
  intro j
  rw [List.getElem?_modify, List.getElem?_set]
  by_cases hj : i = j
  · subst hj
    simp [hlt, he]
  · simp [hj]

end Go.Proofs.Ybulkbwfg
