/-
  LawS3633AScript: 'replace' (function 20), on reports whose cells are whatever.
-/
import Derived.Test.YbulkbwfgScriptSmall
import Derived.Deep.Cut
import Derived.Deep.CutRange
import Derived.Deep.DeepCutAuto
import Derived.Laws.Rows
import Derived.Laws.Tables
namespace Go.Proofs.Ybulkbwfg
open Go.RowKit Go.Proofs

theorem below3 (w : World) (o1 o2 o3 : Obj) : Below w.heap.size w (((w.alloc o1).alloc o2).alloc o3) :=
  (((Below.refl _ _).alloc (Nat.le_refl _) _).alloc (by simp) _).alloc (by simp; omega) _

theorem heap3_new (w : World) (o1 o2 o3 : Obj) : (((w.alloc o1).alloc o2).alloc o3).heap[w.heap.size + 1 + 1]? = some o3 := by
  have h := heap_alloc_new ((w.alloc o1).alloc o2) o3
  rw [World.size_alloc, World.size_alloc] at h
  exact h
theorem heap3_mid (w : World) (o1 o2 o3 : Obj) : (((w.alloc o1).alloc o2).alloc o3).heap[w.heap.size + 1]? = some o2 := by
  rw [Below.heap_alloc _ _ _ (by simp)]
  have h := heap_alloc_new (w.alloc o1) o2
  rw [World.size_alloc] at h
  exact h

def stale : ByteArray := { data := #[115, 116, 97, 108, 101, 45, 115, 101, 113, 117, 101, 110, 99, 101, 45, 110, 117, 109, 98, 101, 114] }
/-- The number a report takes, where it is no stale one. -/
def newSeq (last seq : Int) : Option Int :=
  if seq = 0 then (if last = 9223372036854775807 then none else some (last + 1)) else if seq ≤ last then none else some seq

def zRepA : Array Value := zRep.cells
theorem size49 : (Yba.prog.info? 49).map (·.size) = some 18 := by kernel_rfl

def Replaced (last seq : Int) (c : Array Value) (ex : Ending) : Prop := match newSeq last seq with
  | some q => ex = .returned (.tuple #[.agg (c.setIfInBounds 14 (.int .i64 q)), .string { data := #[] }])
  | none => ex = .returned (.tuple #[.agg zRepA, .string stale])

theorem results20_at (tmps : Array Value) (W : World) (Z : Nat) (cs : Array Value) (r : Value) (hp : tmps.getD 4 undef = .pointer (some ⟨Z, 0, none⟩)) (hr : tmps.getD 5 undef = r) (hg : W.heap[Z]? = some (.cells cs 49 (0, 0))) (hi : cs.size = 18) :
    (results Yba.f20 tmps).run Yba.prog W = .ok (.tuple #[.agg cs, r]) W := by
  have hp' : tmps[4]?.getD undef = .pointer (some ⟨Z, 0, none⟩) := by simpa using hp
  have hr' : tmps[5]?.getD undef = r := by simpa using hr
  have hl := run_loadVar_row (P := Yba.prog) W Z 49 49 cs (0, 0) _ hg Yba.underlying49 rfl (by rw [hi]; exact size49)
  simp [results, Yba.results20, hp', hr', asAddr, hl]

theorem heap_setRow (W : World) (Z : Nat) (cs old : Array Value) (t : TypeId) (h : W.heap[Z]? = some (.cells old t (0, 0))) : (W.setRow Z cs).heap[Z]? = some (.cells cs t (0, 0)) := by
  unfold World.setRow
  show (W.heap.modify Z _)[Z]? = _
  rw [Array.getElem?_modify, if_pos rfl, h]
  rfl
theorem below_setRow {B : Nat} {w W : World} (h : Below B w W) {Z : Nat} (hZ : B ≤ Z) (cs : Array Value) : Below B w (W.setRow Z cs) := by
  refine ⟨h.os, h.tape, h.output, ?_, fun b hb => ?_⟩
  · have := h.size
    simpa [World.setRow] using this
  · rw [← h.block b hb]
    unfold World.setRow
    show (W.heap.modify Z _)[b]? = _
    rw [Array.getElem?_modify, if_neg (by omega)]

theorem heap_setAt (W : World) (b i : Nat) (cs : Array Value) (t : TypeId) (v : Value) (h : W.heap[b]? = some (.cells cs t (0, 0))) : (W.setCell ⟨b, i, none⟩ v).heap[b]? = some (.cells (cs.setIfInBounds i v) t (0, 0)) := by
  exact heap_setCell_same W b i cs t v h

theorem all_set {c : Array Value} (h : c.all (·.oneCell') = true) (i : Nat) {v : Value} (hv : v.oneCell' = true) : (c.setIfInBounds i v).all (·.oneCell') = true := by
  rw [Array.all_eq_true_iff_forall_mem] at h ⊢
  intro x hx
  obtain ⟨j, hj, rfl⟩ := Array.mem_iff_getElem.1 hx
  rw [Array.getElem_setIfInBounds (by simpa using hj)]
  split
  · exact hv
  · exact h _ (Array.getElem_mem _)

theorem zall : zRepA.all (·.oneCell') = true := by kernel_rfl
theorem zsize : (Yba.prog.info? 49).map (·.size) = some zRepA.size := by kernel_rfl

section
set_option maxHeartbeats 800000

theorem replace_walk3 (c0 c : Array Value) (last seq : Int) (w : World) (g0 : c0[14]? = some (.int .i64 last)) (g : c[14]? = some (.int .i64 seq)) (hs : c.size = 18) (h1 : c.all (·.oneCell') = true) (k0 : ¬ seq = 0) (k1 : ¬ seq ≤ last) :
    Calls Yba.prog 20 #[.agg c0, .agg c] w fun ex w' => Below w.heap.size w w' ∧ ex = .returned (.tuple #[.agg c, .string { data := #[] }]) := by
  have HS : Hid (c.size = 18) := hs
  have H1 : Hid (c.all (·.oneCell') = true) := h1
  clear hs h1
  go_enter Yba.func20, Yba.ntmps20
  go_upto_region 7 with fail
  clear g g0
  have hz : (((w.alloc (.cells c0 49)).alloc (.cells c 49)).alloc (.cells zRepA 49)).heap[w.heap.size + 1 + 1]? = some (.cells zRepA 49 (0, 0)) := heap3_new _ _ _ _
  have hc : (((w.alloc (.cells c0 49)).alloc (.cells c 49)).alloc (.cells zRepA 49)).heap[w.heap.size + 1]? = some (.cells c 49 (0, 0)) := heap3_mid _ _ _ _
  have hB := below3 w (.cells c0 49) (.cells c 49) (.cells zRepA 49)
  change Code.wp _ _ _ _ (((w.alloc (.cells c0 49)).alloc (.cells c 49)).alloc (.cells zRepA 49))
  generalize ((w.alloc (.cells c0 49)).alloc (.cells c 49)).alloc (.cells zRepA 49) = W at hz hc hB ⊢
  go_wp2_with (first | (refine wpList_load_row rfl 49 _ rfl (w.heap.size + 1) rfl 49 c (0, 0) _ hc Yba.underlying49 rfl (by rw [HS.out]; exact size49) ?_) | (refine wpList_store_row rfl 49 _ _ rfl (w.heap.size + 1 + 1) c rfl rfl 49 zRepA hz (by rw [HS.out]; exact size49) (by rw [HS.out]; rfl) H1.out ?_))
  refine bodyPost_ret (results20_at _ _ (w.heap.size + 1 + 1) c _ rfl rfl (heap_setRow _ _ _ _ _ hz) HS.out) rfl ?_
  exact ⟨below_setRow hB (by omega) _, rfl⟩

theorem replace_walk1 (c0 c : Array Value) (last : Int) (w : World) (g0 : c0[14]? = some (.int .i64 last)) (g : c[14]? = some (.int .i64 0)) (hs : c.size = 18) (h1 : c.all (·.oneCell') = true) (hl : -9223372036854775808 ≤ last ∧ last ≤ 9223372036854775807) (k1 : ¬ last = 9223372036854775807) :
    Calls Yba.prog 20 #[.agg c0, .agg c] w fun ex w' => Below w.heap.size w w' ∧ ex = .returned (.tuple #[.agg (c.setIfInBounds 14 (.int .i64 (last + 1))), .string { data := #[] }]) := by
  have HS : Hid (c.size = 18) := hs
  have H1 : Hid (c.all (·.oneCell') = true) := h1
  clear hs h1
  go_enter Yba.func20, Yba.ntmps20
  go_upto_region 7 with fail
  clear g g0
  have HS' : Hid ((c.setIfInBounds 14 (.int .i64 (last + 1))).size = 18) := by unfold Hid; rw [Array.size_setIfInBounds]; exact HS.out
  have H1' : Hid ((c.setIfInBounds 14 (.int .i64 (last + 1))).all (·.oneCell') = true) := all_set H1.out _ rfl
  generalize hc' : c.setIfInBounds 14 (.int .i64 (last + 1)) = c' at HS' H1' ⊢
  have HC : Hid (c.setIfInBounds 14 (.int .i64 (last + 1)) = c') := hc'
  clear hc'
  have hz : (((w.alloc (.cells c0 49)).alloc (.cells c' 49)).alloc (.cells zRepA 49)).heap[w.heap.size + 1 + 1]? = some (.cells zRepA 49 (0, 0)) := heap3_new _ _ _ _
  have hc : (((w.alloc (.cells c0 49)).alloc (.cells c' 49)).alloc (.cells zRepA 49)).heap[w.heap.size + 1]? = some (.cells c' 49 (0, 0)) := heap3_mid _ _ _ _
  have hB := below3 w (.cells c0 49) (.cells c' 49) (.cells zRepA 49)
  change Code.wp _ _ _ _ (((w.alloc (.cells c0 49)).alloc (.cells c' 49)).alloc (.cells zRepA 49))
  generalize ((w.alloc (.cells c0 49)).alloc (.cells c' 49)).alloc (.cells zRepA 49) = W at hz hc hB ⊢
  go_wp2_with (first | (refine wpList_load_row rfl 49 _ rfl (w.heap.size + 1) rfl 49 c' (0, 0) _ hc Yba.underlying49 rfl (by rw [HS'.out]; exact size49) ?_) | (refine wpList_store_row rfl 49 _ _ rfl (w.heap.size + 1 + 1) c' rfl rfl 49 zRepA hz (by rw [HS'.out]; exact size49) (by rw [HS'.out]; rfl) H1'.out ?_))
  refine bodyPost_ret (results20_at _ _ (w.heap.size + 1 + 1) c' _ rfl rfl (heap_setRow _ _ _ _ _ hz) HS'.out) rfl ?_
  exact ⟨below_setRow hB (by omega) _, by rw [HC.out]; rfl⟩

theorem replace_walk2 (c0 c : Array Value) (last seq : Int) (w : World) (g0 : c0[14]? = some (.int .i64 last)) (g : c[14]? = some (.int .i64 seq)) (k0 : ¬ seq = 0) (k1 : seq ≤ last) :
    Calls Yba.prog 20 #[.agg c0, .agg c] w fun ex w' => Below w.heap.size w w' ∧ ex = .returned (.tuple #[.agg zRepA, .string stale]) := by
  go_enter Yba.func20, Yba.ntmps20
  go_upto_region 6 with fail
  clear g g0
  have hz : (((w.alloc (.cells c0 49)).alloc (.cells c 49)).alloc (.cells zRepA 49)).heap[w.heap.size + 1 + 1]? = some (.cells zRepA 49 (0, 0)) := heap3_new _ _ _ _
  have hB := below3 w (.cells c0 49) (.cells c 49) (.cells zRepA 49)
  change Code.wp _ _ _ _ (((w.alloc (.cells c0 49)).alloc (.cells c 49)).alloc (.cells zRepA 49))
  generalize ((w.alloc (.cells c0 49)).alloc (.cells c 49)).alloc (.cells zRepA 49) = W at hz hB ⊢
  go_wp2_with (first | (refine wpList_store_row rfl 49 _ _ rfl (w.heap.size + 1 + 1) zRepA rfl rfl 49 zRepA hz zsize rfl zall ?_))
  refine bodyPost_ret (results20_at _ _ (w.heap.size + 1 + 1) zRepA _ rfl rfl (heap_setRow _ _ _ _ _ hz) rfl) rfl ?_
  exact ⟨below_setRow hB (by omega) _, rfl⟩

theorem replace_walk0 (c0 c : Array Value) (last : Int) (w : World) (g0 : c0[14]? = some (.int .i64 last)) (g : c[14]? = some (.int .i64 0)) (k1 : last = 9223372036854775807) :
    Calls Yba.prog 20 #[.agg c0, .agg c] w fun ex w' => Below w.heap.size w w' ∧ ex = .returned (.tuple #[.agg zRepA, .string stale]) := by
  go_enter Yba.func20, Yba.ntmps20
  go_upto_region 2 with fail
  clear g g0
  have hz : (((w.alloc (.cells c0 49)).alloc (.cells c 49)).alloc (.cells zRepA 49)).heap[w.heap.size + 1 + 1]? = some (.cells zRepA 49 (0, 0)) := heap3_new _ _ _ _
  have hB := below3 w (.cells c0 49) (.cells c 49) (.cells zRepA 49)
  change Code.wp _ _ _ _ (((w.alloc (.cells c0 49)).alloc (.cells c 49)).alloc (.cells zRepA 49))
  generalize ((w.alloc (.cells c0 49)).alloc (.cells c 49)).alloc (.cells zRepA 49) = W at hz hB ⊢
  go_wp2_with (first | (refine wpList_store_row rfl 49 _ _ rfl (w.heap.size + 1 + 1) zRepA rfl rfl 49 zRepA hz zsize rfl zall ?_))
  refine bodyPost_ret (results20_at _ _ (w.heap.size + 1 + 1) zRepA _ rfl rfl (heap_setRow _ _ _ _ _ hz) rfl) rfl ?_
  exact ⟨below_setRow hB (by omega) _, rfl⟩
end

theorem set_same {c : Array Value} {i : Nat} {v : Value} (h : c[i]? = some v) : c.setIfInBounds i v = c := by
  obtain ⟨hi, he⟩ := Array.getElem?_eq_some_iff.1 h
  apply Array.ext
  · simp
  · intro j h1 h2
    rw [Array.getElem_setIfInBounds h2]
    split
    · rename_i e; subst e; exact he.symm
    · rfl

/-- 'replace' at whatever two reports. -/
theorem replace_any (c0 c : Array Value) (last seq : Int) (w : World) (g0 : c0[14]? = some (.int .i64 last)) (g : c[14]? = some (.int .i64 seq)) (hs : c.size = 18) (h1 : c.all (·.oneCell') = true) (hl : -9223372036854775808 ≤ last ∧ last ≤ 9223372036854775807) :
    Calls Yba.prog 20 #[.agg c0, .agg c] w fun ex w' => Below w.heap.size w w' ∧ Replaced last seq c ex := by
  by_cases k0 : seq = 0
  · subst k0
    by_cases k1 : last = 9223372036854775807
    · refine (replace_walk0 c0 c last w g0 g k1).mono fun ex w' h => ⟨h.1, ?_⟩
      have HR : newSeq last 0 = none := by unfold newSeq; rw [if_pos rfl, if_pos k1]
      unfold Replaced
      rw [HR]
      exact h.2
    · refine (replace_walk1 c0 c last w g0 g hs h1 hl k1).mono fun ex w' h => ⟨h.1, ?_⟩
      have HR : newSeq last 0 = some (last + 1) := by unfold newSeq; rw [if_pos rfl, if_neg k1]
      unfold Replaced
      rw [HR]
      exact h.2
  · by_cases k1 : seq ≤ last
    · refine (replace_walk2 c0 c last seq w g0 g k0 k1).mono fun ex w' h => ⟨h.1, ?_⟩
      have HR : newSeq last seq = none := by unfold newSeq; rw [if_neg k0, if_pos k1]
      unfold Replaced
      rw [HR]
      exact h.2
    · refine (replace_walk3 c0 c last seq w g0 g hs h1 k0 k1).mono fun ex w' h => ⟨h.1, ?_⟩
      have HR : newSeq last seq = some seq := by unfold newSeq; rw [if_neg k0, if_neg k1]
      unfold Replaced
      rw [HR]
      show ex = .returned (.tuple #[.agg (c.setIfInBounds 14 (.int .i64 seq)), .string { data := #[] }])
      rw [set_same g]
      exact h.2

/-! ### Reports as rows of cells -/
def repA (e s p : Nat) (st : Int) (desc : ByteArray) (seq : Int) : Array Value := #[.string (kindB e), .string (nameB e), .string { data := #[] }, .string { data := #[] }, .string { data := #[] }, .string { data := #[] }, .string { data := #[] }, .string { data := #[] },
  .string (srcB s), .string (propB p), .int .i64 st, .string desc, .pointer none, .bool false, .int .i64 seq, .int .u64 0, .int .i64 0, .pointer none]
theorem repV_A (e s p : Nat) (st : Int) (desc : ByteArray) (seq : Int) : repV e s p st desc seq = .agg (repA e s p st desc seq) := rfl
theorem zRep_A : zRep = .agg zRepA := rfl
theorem repA_seq (e s p : Nat) (st : Int) (desc : ByteArray) (seq : Int) : (repA e s p st desc seq)[14]? = some (.int .i64 seq) := rfl
theorem repA_set (e s p : Nat) (st : Int) (desc : ByteArray) (seq q : Int) : (repA e s p st desc seq).setIfInBounds 14 (.int .i64 q) = repA e s p st desc q := rfl
theorem repA_size (e s p : Nat) (st : Int) (desc : ByteArray) (seq : Int) : (repA e s p st desc seq).size = 18 := rfl
theorem repA_all (e s p : Nat) (st : Int) (desc : ByteArray) (seq : Int) : (repA e s p st desc seq).all (·.oneCell') = true := by
  simp [repA, Value.oneCell']
theorem zRepA_seq : zRepA[14]? = some (.int .i64 0) := rfl
end Go.Proofs.Ybulkbwfg
