/-
  LawS3633AScript: '(*Model).ApplyOwn' (function 17).
-/
import Derived.Test.YbulkbwfgScriptInv
import Derived.Deep.RegionWith
import Derived.Deep.RegionLaw
import Derived.WalkSmall
namespace Go.Proofs.Ybulkbwfg
open Go.RowKit Go.Proofs

/-- The report that stands at (e, s, p), as cells. -/
def lastA (o : Option Ent) : Array Value := match o with
  | some x => repA x.e x.s x.p x.st x.desc x.seq
  | none => zRepA
def seqOf (o : Option Ent) : Int := (o.map Ent.seq).getD 0
theorem repAt_A (e s p : Nat) (l : List Ent) : repAt e s p l = .agg (lastA (look e s p l)) := by
  unfold repAt
  cases look e s p l <;> rfl
theorem lastA_seq (o : Option Ent) : (lastA o)[14]? = some (.int .i64 (seqOf o)) := by
  cases o <;> rfl
theorem lastA_size (o : Option Ent) : (lastA o).size = 18 := by
  cases o <;> rfl

theorem look_mem {e s p : Nat} {T : List Ent} {y : Ent} (h : look e s p T = some y) : y ∈ T := by
  induction T with
  | nil => cases h
  | cons z zs ih =>
    unfold look at h
    by_cases hh : z.hit e s p = true
    · rw [if_pos hh] at h; cases h; exact .head _
    · rw [if_neg hh] at h; exact .tail _ (ih h)

/-- What an entity's map answers, nil or not. -/
theorem look_reps {W : World} {m : Option Nat} {l : List Ent} (h : RepsAt W m l) (e s p : Nat) (hs : s < 5) (hp : p < 2) (hl : ∀ x ∈ l, x.ok ∧ x.e = e) (ok : Bool) :
    (Instr.lookup 34 (.map m) (keyV s p) ok).run Yba.prog W = .ok (if ok then .tuple #[.agg (lastA (look e s p l)), .bool (look e s p l).isSome] else .agg (lastA (look e s p l))) W := by
  cases m with
  | none =>
    have hn : l = [] := h
    subst hn
    exact look_norep W s p hs hp ok
  | some R =>
    rw [← repAt_A]
    exact look_rep h e s p hs hp hl ok

theorem sub_mem {e : Nat} {T : List Ent} {x : Ent} (h : x ∈ sub e T) : x ∈ T ∧ x.e = e := by
  unfold sub at h
  rw [List.mem_filter] at h
  exact ⟨h.1, by simpa using h.2⟩

def unknown : ByteArray := { data := #[117, 110, 107, 110, 111, 119, 110, 45, 101, 110, 116, 105, 116, 121] }

/-- A whole report is read, as one step of a region that draws. -/
theorem step_load49 {ops : Array Oper} {o : Oper} {a : Act} {w : World} {K : Act → World → Prop} {Q : Exit → Act → World → Prop} {Ex : Prop} (hgd : o.guard = none) (x : Operand) (ho : o.op = .load 49 x) (g : Nat) (hx : a.eval x = .pointer (some ⟨g, 0, none⟩)) (c : Array Value) (hg : w.heap[g]? = some (.cells c 49 (0, 0))) (hs : c.size = 18)
    (h : K (a.put o.dst (.agg c)) w) : if Region.wanted o (yielded ops a.tmps) = true then Oper.wp Yba.prog o a w K Q else Ex := by
  rw [if_pos (by simp [Region.wanted, hgd])]
  exact wp_load_row 49 x ho g hx 49 c (0, 0) _ hg Yba.underlying49 rfl (by rw [hs]; exact size49) h
/-- A whole report is written. -/
theorem step_store49 {ops : Array Oper} {o : Oper} {a : Act} {w : World} {K : Act → World → Prop} {Q : Exit → Act → World → Prop} {Ex : Prop} (hgd : o.guard = none) (x y : Operand) (ho : o.op = .store 49 x y) (g : Nat) (hx : a.eval x = .pointer (some ⟨g, 0, none⟩)) (c old : Array Value) (hy : a.eval y = .agg c) (hg : w.heap[g]? = some (.cells old 49 (0, 0))) (hold : old.size = 18) (hs : c.size = 18) (h1 : c.all (·.oneCell') = true)
    (h : K (a.put o.dst undef) (w.setRow g c)) : if Region.wanted o (yielded ops a.tmps) = true then Oper.wp Yba.prog o a w K Q else Ex := by
  rw [if_pos (by simp [Region.wanted, hgd])]
  exact wp_store_row 49 x y ho g c hx hy 49 old hg (by rw [hs]; exact size49) (by rw [hs, hold]) h1 h

theorem both_of {A B : Prop} (h : A) (k : A → B) : B := k h

theorem newSeq_range {last seq q : Int} (hb : -9223372036854775808 ≤ last ∧ last ≤ 9223372036854775807) (hs : -9223372036854775808 ≤ seq ∧ seq ≤ 9223372036854775807) (h : newSeq last seq = some q) : -9223372036854775808 ≤ q ∧ q ≤ 9223372036854775807 := by
  unfold newSeq at h
  split at h
  · split at h
    · cases h
    · cases h; omega
  · split at h
    · cases h
    · cases h; exact hs

theorem nil_none (w : World) : (binOp .eql 34 (.map none) (.map none)).run Yba.prog w = .ok (.bool true) w := by kernel_rfl
theorem nil_some (R : Nat) (w : World) : (binOp .eql 34 (.map (some R)) (.map none)).run Yba.prog w = .ok (.bool false) w := by kernel_rfl

/-- What 'ApplyOwn' leaves. -/
def OwnPost (w wr : World) (Mo B : Nat) (E : Nat → Nat) (v : Value) (mo : Nat → Option Nat) (T : List Ent) (e s p : Nat) (st : Int) (desc : ByteArray) (o : Option Int) (ex : Ending) (w' : World) : Prop :=
  Old wr w' ∧ wr.heap.size ≤ w'.heap.size ∧
    (match o with
    | some q => ex = .returned (.string { data := #[] }) ∧ ∃ mo', Inv w w' Mo B 3 E v mo' (putE ⟨e, s, p, q, st, desc⟩ T)
    | none => ex = .returned (.string stale) ∧ Inv w w' Mo B 3 E v mo T)

theorem own_put {w wr W4 : World} {Mo B R e s p : Nat} {E : Nat → Nat} {v : Value} {mo mo4 : Nat → Option Nat} {T : List Ent} {st q : Int} {desc : ByteArray} (hI4 : Inv w W4 Mo B 3 E v mo4 T) (hm4 : mo4 e = some R) (hO4 : Old wr W4) (hS4 : wr.heap.size ≤ W4.heap.size) (he : e < 3) (hs : s < 5) (hp : p < 2) (hseq : -9223372036854775808 ≤ q ∧ q ≤ 9223372036854775807) (hOK : ∀ x ∈ sub e T, x.ok ∧ x.e = e) :
    ∃ W5, (Instr.mapUpdate 34 (.map (some R)) (keyV s p) (.agg (repA e s p st desc q))).run Yba.prog W4.drew = .ok () W5 ∧ OwnPost w wr Mo B E v mo T e s p st desc (some q) (.returned (.string { data := #[] })) W5 := by
  have hI5 := hI4.later (Below.refl _ W4).drew
  have hr := hI5.reps e he
  rw [hm4] at hr
  have hP := hI5.put ⟨e, s, p, q, st, desc⟩ ⟨hs, hp⟩ he he hseq hm4
  have h := put_rep (w := W4.drew) (R := R) (l := sub e T) hr ⟨e, s, p, q, st, desc⟩ ⟨hs, hp⟩ hOK
  refine ⟨_, h, hO4.trans (fun b c t f ht hh => ?_), ?_, rfl, mo4, hP⟩
  · have hne : b ≠ R := fun e' => by
      subst e'
      have h' : W4.drew.heap[b]? = some (.cells c t f) := hh
      rw [hr] at h'
      cases h'
    rw [heap_setObj _ _ _ _ hne]
    exact hh
  · show wr.heap.size ≤ (W4.heap.setIfInBounds _ _).size
    simpa using hS4

section
set_option maxHeartbeats 8000000
set_option maxRecDepth 100000

theorem own_unknown (w wr : World) (Mo B : Nat) (E : Nat → Nat) (v : Value) (mo : Nat → Option Nat) (T : List Ent) (s p : Nat) (st : Int) (desc : ByteArray) (seq : Int) (hI : Inv w wr Mo B 3 E v mo T) :
    Calls Yba.prog 17 #[.pointer (some ⟨Mo, 0, none⟩), .agg (repA 3 s p st desc seq)] wr fun ex w' => ex = .returned (.string unknown) ∧ Below wr.heap.size wr w' := by
  obtain ⟨c, hc⟩ : ∃ c, c = repA 3 s p st desc seq := ⟨_, rfl⟩
  rw [← hc]
  have HC : Hid (c = repA 3 s p st desc seq) := hc
  clear hc
  go_enter Yba.func17, Yba.ntmps17
  go_upto_region 1 with fail
  have hb : Below wr.heap.size wr (wr.alloc (.cells c 49)) := (Below.refl _ _).alloc (Nat.le_refl _) _
  have hk := heap_alloc_new wr (.cells c 49)
  generalize wr.alloc (.cells c 49) = W at hb hk ⊢
  have hI' := hI.later hb
  have k0 : W.cell? ⟨wr.heap.size, 0, none⟩ = some (.string (kindB 3)) := by simp [World.cell?, hk, HC.out, repA]
  have k1 : W.cell? ⟨wr.heap.size, 1, none⟩ = some (.string (nameB 3)) := by simp [World.cell?, hk, HC.out, repA]
  have k2 : W.cell? ⟨wr.heap.size, 2, none⟩ = some (.string { data := #[] }) := by simp [World.cell?, hk, HC.out, repA]
  have k3 : W.cell? ⟨wr.heap.size, 3, none⟩ = some (.string { data := #[] }) := by simp [World.cell?, hk, HC.out, repA]
  have k4 : W.cell? ⟨wr.heap.size, 4, none⟩ = some (.string { data := #[] }) := by simp [World.cell?, hk, HC.out, repA]
  have k5 : W.cell? ⟨wr.heap.size, 5, none⟩ = some (.string { data := #[] }) := by simp [World.cell?, hk, HC.out, repA]
  have k6 : W.cell? ⟨wr.heap.size, 6, none⟩ = some (.string { data := #[] }) := by simp [World.cell?, hk, HC.out, repA]
  have k7 : W.cell? ⟨wr.heap.size, 7, none⟩ = some (.string { data := #[] }) := by simp [World.cell?, hk, HC.out, repA]
  have m1 : W.cell? ⟨Mo, 1, none⟩ = some (.map (some B)) := by simp [World.cell?, hI'.model]
  have hl : ∀ k, (Instr.lookup 24 (.map (some B)) (refV 3) true).run Yba.prog (W.drewN k) = .ok (.tuple #[.pointer none, .bool false]) (W.drewN k) := fun k => look_ref (w := W.drewN k) (E := E) (c := 3) (by exact hI'.byRef) 3 (by omega) true
  unfold refV at hl
  clear hk HC hI
  go_quiet (fail)
  go_wp2
  go_ret
  exact ⟨rfl, below_drewN hb _⟩

theorem own_known (w wr : World) (Mo B : Nat) (E : Nat → Nat) (v : Value) (mo : Nat → Option Nat) (T : List Ent) (e s p : Nat) (st : Int) (desc : ByteArray) (seq : Int) (he : e < 3) (hs : s < 5) (hp : p < 2) (hsb : -9223372036854775808 ≤ seq ∧ seq ≤ 9223372036854775807) (hI : Inv w wr Mo B 3 E v mo T) :
    Calls Yba.prog 17 #[.pointer (some ⟨Mo, 0, none⟩), .agg (repA e s p st desc seq)] wr fun ex w' => OwnPost w wr Mo B E v mo T e s p st desc (newSeq (seqOf (look e s p T)) seq) ex w' := by
  obtain ⟨c, hc⟩ : ∃ c, c = repA e s p st desc seq := ⟨_, rfl⟩
  rw [← hc]
  have HC : Hid (c = repA e s p st desc seq) := hc
  clear hc
  go_enter Yba.func17, Yba.ntmps17
  go_upto_region 1 with fail
  have hb : Below wr.heap.size wr (wr.alloc (.cells c 49)) := (Below.refl _ _).alloc (Nat.le_refl _) _
  have hk := heap_alloc_new wr (.cells c 49)
  generalize wr.alloc (.cells c 49) = W at hb hk ⊢
  have hI' := hI.later hb
  have k0 : W.cell? ⟨wr.heap.size, 0, none⟩ = some (.string (kindB e)) := by simp [World.cell?, hk, HC.out, repA]
  have k1 : W.cell? ⟨wr.heap.size, 1, none⟩ = some (.string (nameB e)) := by simp [World.cell?, hk, HC.out, repA]
  have k2 : W.cell? ⟨wr.heap.size, 2, none⟩ = some (.string { data := #[] }) := by simp [World.cell?, hk, HC.out, repA]
  have k3 : W.cell? ⟨wr.heap.size, 3, none⟩ = some (.string { data := #[] }) := by simp [World.cell?, hk, HC.out, repA]
  have k4 : W.cell? ⟨wr.heap.size, 4, none⟩ = some (.string { data := #[] }) := by simp [World.cell?, hk, HC.out, repA]
  have k5 : W.cell? ⟨wr.heap.size, 5, none⟩ = some (.string { data := #[] }) := by simp [World.cell?, hk, HC.out, repA]
  have k6 : W.cell? ⟨wr.heap.size, 6, none⟩ = some (.string { data := #[] }) := by simp [World.cell?, hk, HC.out, repA]
  have k7 : W.cell? ⟨wr.heap.size, 7, none⟩ = some (.string { data := #[] }) := by simp [World.cell?, hk, HC.out, repA]
  have k8 : W.cell? ⟨wr.heap.size, 8, none⟩ = some (.string (srcB s)) := by simp [World.cell?, hk, HC.out, repA]
  have k9 : W.cell? ⟨wr.heap.size, 9, none⟩ = some (.string (propB p)) := by simp [World.cell?, hk, HC.out, repA]
  have m1 : W.cell? ⟨Mo, 1, none⟩ = some (.map (some B)) := by simp [World.cell?, hI'.model]
  have hl : ∀ k, (Instr.lookup 24 (.map (some B)) (refV e) true).run Yba.prog (W.drewN k) = .ok (.tuple #[.pointer (some ⟨E e, 0, none⟩), .bool true]) (W.drewN k) := fun k => by
    have h := look_ref (w := W.drewN k) (E := E) (c := 3) (by exact hI'.byRef) e (by omega) true
    unfold refAt at h
    simp only [he, if_true, decide_true] at h
    exact h
  unfold refV at hl
  go_quiet (fail)
  clear k0 k1 k2 k3 k4 k5 k6 k7 m1 hl
  obtain ⟨W1, hW1⟩ : ∃ W1, W1 = W.drewN nq := ⟨_, rfl⟩
  rw [← hW1]
  have hb1 : Below wr.heap.size wr W1 := by rw [hW1]; exact below_drewN hb _
  have hk1 : W1.heap[wr.heap.size]? = some (.cells c 49 (0, 0)) := by rw [hW1]; exact hk
  have l8 : W1.cell? ⟨wr.heap.size, 8, none⟩ = some (.string (srcB s)) := by rw [hW1]; exact k8
  have l9 : W1.cell? ⟨wr.heap.size, 9, none⟩ = some (.string (propB p)) := by rw [hW1]; exact k9
  clear k8 k9 hk hb hI' hW1
  have hI1 := hI.later hb1
  go_upto_region 5 with fail
  clear l8 l9
  have hb2 : Below W1.heap.size W1 (W1.alloc (.cells #[.string (srcB s), .string (propB p)] 58)) := (Below.refl _ _).alloc (Nat.le_refl _) _
  have hK2 := heap_alloc_new W1 (.cells #[.string (srcB s), .string (propB p)] 58)
  generalize W1.alloc (.cells #[.string (srcB s), .string (propB p)] 58) = W2 at hb2 hK2 ⊢
  have hI2 := hI1.later hb2
  have hk2 : W2.heap[wr.heap.size]? = some (.cells c 49 (0, 0)) := (hb2.block _ (Array.getElem?_eq_some_iff.1 hk1).1).trans hk1
  have hOK : ∀ x ∈ sub e T, x.ok ∧ x.e = e := fun x hx => ⟨(hI.tab x (sub_mem hx).1).1, (sub_mem hx).2⟩
  have hlk : (Instr.lookup 34 (.map (mo e)) (keyV s p) false).run Yba.prog W2.drew = .ok (.agg (lastA (look e s p T))) W2.drew := by
    have h := look_reps (W := W2.drew) (m := mo e) (l := sub e T) (hI2.later ((Below.refl _ _).drew) |>.reps e he) e s p hs hp hOK false
    rw [look_sub] at h
    exact h
  unfold keyV at hlk
  have hcell : ∀ i, W2.cell? ⟨wr.heap.size, i, none⟩ = c[i]? := fun i => by simp [World.cell?, hk2]
  have q0 : W2.cell? ⟨W1.heap.size, 0, none⟩ = some (.string (srcB s)) := by simp [World.cell?, hK2]
  have q1 : W2.cell? ⟨W1.heap.size, 1, none⟩ = some (.string (propB p)) := by simp [World.cell?, hK2]
  have e11 : W2.cell? ⟨E e, 11, none⟩ = some (.map (mo e)) := by simp [World.cell?, hI2.ent e he, entA]
  clear hcell
  have hsq := lastA_seq (look e s p T)
  have hbd : -9223372036854775808 ≤ seqOf (look e s p T) ∧ seqOf (look e s p T) ≤ 9223372036854775807 := by
    cases hlo : look e s p T with
    | none => exact ⟨by decide, by decide⟩
    | some x => exact (hI.tab x (look_mem hlo)).2.2
  have hrep := fun w' => replace_any (lastA (look e s p T)) (repA e s p st desc seq) (seqOf (look e s p T)) seq w' hsq (repA_seq _ _ _ _ _ _) (repA_size _ _ _ _ _ _) (repA_all _ _ _ _ _ _) hbd
  generalize lastA (look e s p T) = cl at hlk hrep
  generalize hlast : seqOf (look e s p T) = last at hrep ⊢
  have HL : Hid (seqOf (look e s p T) = last) := hlast
  clear hlast
  have hcs : c.size = 18 := by rw [HC.out]; exact repA_size _ _ _ _ _ _
  rw [← HC.out] at hrep
  have HS : Hid (c.size = 18) := hcs
  have hKlt : wr.heap.size < W2.heap.size := (Array.getElem?_eq_some_iff.1 hk2).1
  have HK : Hid (W2.heap[wr.heap.size]? = some (.cells c 49 (0, 0))) := hk2
  have H58 : Hid (W2.heap[W1.heap.size]? = some (.cells #[.string (srcB s), .string (propB p)] 58 (0, 0))) := hK2
  have HB2 : Hid (Below wr.heap.size wr W2) := hb1.trans (hb2.mono hb1.size)
  clear hcs hk2 hK2 hb2 hI1 hb1 hk1 hsq
  obtain ⟨c', rs, hc's, hc'1, hcall, hout⟩ : ∃ (c' : Array Value) (rs : ByteArray), c'.size = 18 ∧ c'.all (·.oneCell') = true ∧ (∀ w', Calls Yba.prog 20 #[.agg cl, .agg c] w' fun ex w'' => Below w'.heap.size w' w'' ∧ ex = .returned (.tuple #[.agg c', .string rs])) ∧
      (match newSeq last seq with
      | some q => rs = { data := #[] } ∧ c' = repA e s p st desc q
      | none => rs = stale) := by
    cases hq : newSeq last seq with
    | none =>
      refine ⟨zRepA, stale, rfl, zall, fun w' => (hrep w').mono fun ex w'' h => ⟨h.1, ?_⟩, rfl⟩
      have h2 := h.2
      unfold Replaced at h2
      rw [hq] at h2
      exact h2
    | some q =>
      refine ⟨repA e s p st desc q, { data := #[] }, rfl, repA_all _ _ _ _ _ _, fun w' => (hrep w').mono fun ex w'' h => ⟨h.1, ?_⟩, rfl, rfl⟩
      have h2 := h.2
      unfold Replaced at h2
      rw [hq, HC.out] at h2
      exact h2
  have HS' : Hid (c'.size = 18) := hc's
  have H1' : Hid (c'.all (·.oneCell') = true) := hc'1
  have HO : Hid (match newSeq last seq with
      | some q => rs = { data := #[] } ∧ c' = repA e s p st desc q
      | none => rs = stale) := hout
  clear hc's hc'1 hout hrep
  go_cut [8] (fun s8 wx => s8 = .string rs ∧ ∃ w3, Below W2.heap.size W2 w3 ∧ wx = w3.setRow wr.heap.size c')
  case first =>
    refine wp_region_any (by kernel_rfl) ?_
    change wpAny _ _ _ _ _ _ _ (World.drew _)
    refine wpAny_take (i := 0) (v := .pointer (some ⟨E e, 0, none⟩)) rfl (by kernel_rfl) (by kernel_rfl) (by kernel_rfl) (fun _ _ _ h => h) (Or.inl ⟨by rfl, fun w => by go_simp⟩) ?_
    refine wpAny_take (i := 1) (v := .pointer (some ⟨E e, 0, none⟩)) rfl (by kernel_rfl) (by kernel_rfl) (by kernel_rfl) (fun _ _ _ h => h) (Or.inl ⟨by rfl, fun w => by go_simp⟩) ?_
    refine wpAny_take (i := 2) (v := .pointer (some ⟨E e, 11, none⟩)) rfl (by kernel_rfl) (by kernel_rfl) (by kernel_rfl) (fun _ _ _ h => h) (Or.inl ⟨by rfl, fun w => by go_simp⟩) ?_
    apply both_of
    case k =>
      intro common
      refine wpAny_ready (rs := [3, 4, 6]) (by kernel_rfl) (by simp) ?_
      refine (AllReady.cons rfl (fun K hK => ?_) (AllReady.cons rfl (fun K hK => ?_) (AllReady.cons rfl (fun K hK => ?_) AllReady.nil)))
      · go_simp
        refine hK _ _ ?_
        clear hK K
        refine wpAny_ready (rs := [4, 6]) (by kernel_rfl) (by simp) ?_
        refine (AllReady.cons rfl (fun K hK => ?_) (AllReady.cons rfl (fun K hK => ?_) AllReady.nil))
        · go_simp
          refine hK _ _ ?_
          clear hK K
          refine wpAny_ready (rs := [5, 6]) (by kernel_rfl) (by simp) ?_
          refine (AllReady.cons rfl (fun K hK => ?_) (AllReady.cons rfl (fun K hK => ?_) AllReady.nil))
          · go_simp
            refine hK _ _ ?_
            clear hK K
            refine wpAny_ready (rs := [6]) (by kernel_rfl) (by simp) ?_
            refine (AllReady.cons rfl (fun K hK => ?_) AllReady.nil)
            · refine step_load49 rfl (.tmp 3) rfl wr.heap.size rfl c HK.out HS.out ?_
              try go_simp
              refine hK _ _ ?_
              clear hK K
              exact common
          · refine step_load49 rfl (.tmp 3) rfl wr.heap.size rfl c HK.out HS.out ?_
            try go_simp
            refine hK _ _ ?_
            clear hK K
            refine wpAny_ready (rs := [5]) (by kernel_rfl) (by simp) ?_
            refine (AllReady.cons rfl (fun K hK => ?_) AllReady.nil)
            · go_simp
              refine hK _ _ ?_
              clear hK K
              exact common
        · refine step_load49 rfl (.tmp 3) rfl wr.heap.size rfl c HK.out HS.out ?_
          try go_simp
          refine hK _ _ ?_
          clear hK K
          refine wpAny_ready (rs := [4]) (by kernel_rfl) (by simp) ?_
          refine (AllReady.cons rfl (fun K hK => ?_) AllReady.nil)
          · go_simp
            refine hK _ _ ?_
            clear hK K
            refine wpAny_ready (rs := [5]) (by kernel_rfl) (by simp) ?_
            refine (AllReady.cons rfl (fun K hK => ?_) AllReady.nil)
            · go_simp
              refine hK _ _ ?_
              clear hK K
              exact common
      · go_simp
        refine hK _ _ ?_
        clear hK K
        refine wpAny_ready (rs := [3, 6]) (by kernel_rfl) (by simp) ?_
        refine (AllReady.cons rfl (fun K hK => ?_) (AllReady.cons rfl (fun K hK => ?_) AllReady.nil))
        · go_simp
          refine hK _ _ ?_
          clear hK K
          refine wpAny_ready (rs := [5, 6]) (by kernel_rfl) (by simp) ?_
          refine (AllReady.cons rfl (fun K hK => ?_) (AllReady.cons rfl (fun K hK => ?_) AllReady.nil))
          · go_simp
            refine hK _ _ ?_
            clear hK K
            refine wpAny_ready (rs := [6]) (by kernel_rfl) (by simp) ?_
            refine (AllReady.cons rfl (fun K hK => ?_) AllReady.nil)
            · refine step_load49 rfl (.tmp 3) rfl wr.heap.size rfl c HK.out HS.out ?_
              try go_simp
              refine hK _ _ ?_
              clear hK K
              exact common
          · refine step_load49 rfl (.tmp 3) rfl wr.heap.size rfl c HK.out HS.out ?_
            try go_simp
            refine hK _ _ ?_
            clear hK K
            refine wpAny_ready (rs := [5]) (by kernel_rfl) (by simp) ?_
            refine (AllReady.cons rfl (fun K hK => ?_) AllReady.nil)
            · go_simp
              refine hK _ _ ?_
              clear hK K
              exact common
        · refine step_load49 rfl (.tmp 3) rfl wr.heap.size rfl c HK.out HS.out ?_
          try go_simp
          refine hK _ _ ?_
          clear hK K
          refine wpAny_ready (rs := [3]) (by kernel_rfl) (by simp) ?_
          refine (AllReady.cons rfl (fun K hK => ?_) AllReady.nil)
          · go_simp
            refine hK _ _ ?_
            clear hK K
            refine wpAny_ready (rs := [5]) (by kernel_rfl) (by simp) ?_
            refine (AllReady.cons rfl (fun K hK => ?_) AllReady.nil)
            · go_simp
              refine hK _ _ ?_
              clear hK K
              exact common
      · refine step_load49 rfl (.tmp 3) rfl wr.heap.size rfl c HK.out HS.out ?_
        try go_simp
        refine hK _ _ ?_
        clear hK K
        refine wpAny_ready (rs := [3, 4]) (by kernel_rfl) (by simp) ?_
        refine (AllReady.cons rfl (fun K hK => ?_) (AllReady.cons rfl (fun K hK => ?_) AllReady.nil))
        · go_simp
          refine hK _ _ ?_
          clear hK K
          refine wpAny_ready (rs := [4]) (by kernel_rfl) (by simp) ?_
          refine (AllReady.cons rfl (fun K hK => ?_) AllReady.nil)
          · go_simp
            refine hK _ _ ?_
            clear hK K
            refine wpAny_ready (rs := [5]) (by kernel_rfl) (by simp) ?_
            refine (AllReady.cons rfl (fun K hK => ?_) AllReady.nil)
            · go_simp
              refine hK _ _ ?_
              clear hK K
              exact common
        · go_simp
          refine hK _ _ ?_
          clear hK K
          refine wpAny_ready (rs := [3]) (by kernel_rfl) (by simp) ?_
          refine (AllReady.cons rfl (fun K hK => ?_) AllReady.nil)
          · go_simp
            refine hK _ _ ?_
            clear hK K
            refine wpAny_ready (rs := [5]) (by kernel_rfl) (by simp) ?_
            refine (AllReady.cons rfl (fun K hK => ?_) AllReady.nil)
            · go_simp
              refine hK _ _ ?_
              clear hK K
              exact common
    case h =>
      refine wpAny_ready (rs := [7]) (by kernel_rfl) (by simp) ?_
      refine AllReady.cons rfl (fun K hK => ?_) AllReady.nil
      go_simp
      refine (hcall _).mono ?_
      rintro ex w3 ⟨hb3, rfl⟩
      refine hK _ _ ?_
      clear hK K
      refine wpAny_take (i := 8) (v := .tuple #[.agg c', .string rs]) rfl (by kernel_rfl) (by kernel_rfl) (by kernel_rfl) (fun _ _ _ h => h) (Or.inl ⟨by rfl, fun w => by go_simp⟩) ?_
      refine wpAny_take (i := 9) (v := .agg c') rfl (by kernel_rfl) (by kernel_rfl) (by kernel_rfl) (fun _ _ _ h => h) (Or.inl ⟨by rfl, fun w => by go_simp⟩) ?_
      refine wpAny_take (i := 10) (v := .string rs) rfl (by kernel_rfl) (by kernel_rfl) (by kernel_rfl) (fun _ _ _ h => h) (Or.inl ⟨by rfl, fun w => by go_simp⟩) ?_
      refine wpAny_ready (rs := [11]) (by kernel_rfl) (by simp) ?_
      refine AllReady.cons rfl (fun K hK => ?_) AllReady.nil
      refine step_store49 rfl (.tmp 3) (.tmp 35) rfl wr.heap.size rfl c' c rfl ((hb3.block _ hKlt).trans HK.out) HS.out HS'.out H1'.out ?_
      try go_simp
      refine hK _ _ ?_
      clear hK K
      refine wpAny_take (i := 12) (v := .string rs) rfl (by kernel_rfl) (by kernel_rfl) (by kernel_rfl) (fun _ _ _ h => h) (Or.inl ⟨by rfl, fun w => by go_simp⟩) ?_
      refine wpAny_done (by kernel_rfl) ?_ _
      go_wp2_with fail
      go_meet
      exact ⟨rfl, w3, (Below.refl W2.heap.size W2).drew.trans hb3, rfl⟩
  case rest =>
    obtain ⟨rfl, w3, hb3, hwc⟩ := hcut
    have hK3 : w3.heap[wr.heap.size]? = some (.cells c 49 (0, 0)) := (hb3.block _ hKlt).trans HK.out
    have HK3 : Hid (wc.heap[wr.heap.size]? = some (.cells c' 49 (0, 0))) := by rw [hwc]; exact heap_setRow _ _ _ _ _ hK3
    have other : ∀ b o, w3.heap[b]? = some o → (∀ c f, o ≠ Obj.cells c 49 f) → wc.heap[b]? = some o := fun b o h hn => by
      have hne : wr.heap.size ≠ b := fun e => by subst e; rw [hK3] at h; cases h; exact hn _ _ rfl
      rw [hwc]
      unfold World.setRow
      show (w3.heap.modify _ _)[b]? = _
      rw [Array.getElem?_modify, if_neg hne]
      exact h
    have h58 : wc.heap[W1.heap.size]? = some (.cells #[.string (srcB s), .string (propB p)] 58 (0, 0)) :=
      other _ _ ((hb3.block _ (Array.getElem?_eq_some_iff.1 H58.out).1).trans H58.out) (fun c f e => by cases e)
    have hB3 : Below wr.heap.size wr wc := by
      rw [hwc]
      exact below_setRow (HB2.out.trans (hb3.mono HB2.out.size)) (Nat.le_refl _) _
    have hI3 : Inv w wc Mo B 3 E v mo T := (hI2.later hb3).keep (hI.below.trans (hB3.mono hI.below.size)) (fun b o h _ h49 => other b o h h49)
    clear hwc other hK3 hb3 hI2 q0 q1 e11 hlk hcall HK H58 HB2 hKlt
    cases hq : newSeq last seq with
    | none =>
      have hO := HO.out
      rw [hq] at hO
      have hO : rs = stale := hO
      subst hO
      unfold stale
      go_wp2_with fail
      go_ret
      rw [HL.out, hq]
      exact ⟨Old.of_below hB3, hB3.size, rfl, hI3⟩
    | some q =>
      have hO := HO.out
      rw [hq] at hO
      obtain ⟨hO1, hO2⟩ := hO
      subst hO1
      have HC' : Hid (c' = repA e s p st desc q) := hO2
      clear hO2 HO HC HS
      have HI3 : Hid (Inv w wc Mo B 3 E v mo T) := hI3
      have HB3 : Hid (Below wr.heap.size wr wc) := hB3
      have H58 : Hid (wc.heap[W1.heap.size]? = some (.cells #[.string (srcB s), .string (propB p)] 58 (0, 0))) := h58
      have e11 : wc.cell? ⟨E e, 11, none⟩ = some (.map (mo e)) := by simp [World.cell?, hI3.ent e he, entA]
      clear hI3 hB3 h58
      cases hm : mo e with
      | none =>
        rw [hm] at e11
        have hnil := nil_none
        have hmk : ∀ w, (Instr.makeMap 34 none).run Yba.prog w = .ok (.map (some w.heap.size)) (w.alloc (.map #[] 0)) := fun _ => rfl
        have e11a : (wc.alloc (.map #[] 0)).cell? ⟨E e, 11, none⟩ = some (.map none) := by
          simp [World.cell?, Below.heap_alloc _ _ _ (Array.getElem?_eq_some_iff.1 (HI3.out.ent e he)).1, HI3.out.ent e he, entA, hm]
        have e11f : (wc.alloc (.map #[] 0)).frozen? ⟨E e, 11, none⟩ = false := by
          simp [World.frozen?, Below.heap_alloc _ _ _ (Array.getElem?_eq_some_iff.1 (HI3.out.ent e he)).1, HI3.out.ent e he]
        go_upto_region 10 with fail
        have hI3 := HI3.out
        have hB3 := HB3.out
        have hI4 := hI3.link e he hm
        have hEe := hI3.ent e he
        have ne : ∀ b o, wc.heap[b]? = some o → (∀ c f, o ≠ Obj.cells c 37 f) → ((wc.alloc (.map #[] 0)).setCell ⟨E e, 11, none⟩ (.map (some wc.heap.size))).heap[b]? = some o := fun b o hb hno => by
          have hne : b ≠ E e := fun e' => by
            subst e'
            rw [hEe] at hb
            cases hb
            exact hno _ _ rfl
          rw [Below.heap_setCell _ _ _ _ hne, Below.heap_alloc _ _ _ (Array.getElem?_eq_some_iff.1 hb).1]
          exact hb
        have HK4 := ne _ _ HK3.out (fun c f e => by cases e)
        have H54 := ne _ _ H58.out (fun c f e => by cases e)
        have hO4 : Old wr ((wc.alloc (.map #[] 0)).setCell ⟨E e, 11, none⟩ (.map (some wc.heap.size))) := (Old.of_below hB3).trans (fun b c t f ht h => ne _ _ h (fun c' f' e' => by cases e'; exact ht rfl))
        have hS4 : wr.heap.size ≤ ((wc.alloc (.map #[] 0)).setCell ⟨E e, 11, none⟩ (.map (some wc.heap.size))).heap.size := Nat.le_trans hB3.size ((((Below.refl wc.heap.size wc).alloc (Nat.le_refl _) _).mono (Nat.zero_le _)).setCell (Nat.zero_le _) _).size
        generalize (wc.alloc (.map #[] 0)).setCell ⟨E e, 11, none⟩ (.map (some wc.heap.size)) = W4 at hI4 HK4 H54 hO4 hS4 ⊢
        obtain ⟨R, hR⟩ : ∃ R, R = wc.heap.size := ⟨_, rfl⟩
        obtain ⟨mo4, hmo4⟩ : ∃ mo4, mo4 = fun j => if j = e then some wc.heap.size else mo j := ⟨_, rfl⟩
        rw [← hmo4] at hI4
        have hm4 : mo4 e = some R := by rw [hmo4, hR]; simp
        clear hmo4 hEe ne hI3 hB3 hR e11a e11f
        have e11 : W4.cell? ⟨E e, 11, none⟩ = some (.map (some R)) := by rw [← hm4]; simp [World.cell?, hI4.ent e he, entA]
        have q0 : W4.cell? ⟨W1.heap.size, 0, none⟩ = some (.string (srcB s)) := by simp [World.cell?, H54]
        have q1 : W4.cell? ⟨W1.heap.size, 1, none⟩ = some (.string (propB p)) := by simp [World.cell?, H54]
        have HK4 : Hid (W4.heap[wr.heap.size]? = some (.cells c' 49 (0, 0))) := HK4
        obtain ⟨W5, hput, hfin⟩ : ∃ W5, (Instr.mapUpdate 34 (.map (some R)) (keyV s p) (.agg c')).run Yba.prog W4.drew = .ok () W5 ∧ OwnPost w wr Mo B E v mo T e s p st desc (newSeq (seqOf (look e s p T)) seq) (.returned (.string { data := #[] })) W5 := by
          rw [HC'.out, HL.out, hq]
          exact own_put hI4 hm4 hO4 hS4 he hs hp (newSeq_range hbd hsb (by rw [HL.out]; exact hq)) hOK
        unfold keyV at hput
        clear hI4 H54 hO4 hS4 hm4 HI3 HK3 H58 HB3 hbd hOK hI hsb
        refine wp_region_any (by kernel_rfl) ?_
        change wpAny _ _ _ _ _ _ _ (World.drew _)
        refine wpAny_take (i := 0) (v := .pointer (some ⟨E e, 0, none⟩)) rfl (by kernel_rfl) (by kernel_rfl) (by kernel_rfl) (fun _ _ _ h => h) (Or.inl ⟨by rfl, fun w => by go_simp⟩) ?_
        refine wpAny_take (i := 1) (v := .pointer (some ⟨E e, 0, none⟩)) rfl (by kernel_rfl) (by kernel_rfl) (by kernel_rfl) (fun _ _ _ h => h) (Or.inl ⟨by rfl, fun w => by go_simp⟩) ?_
        refine wpAny_take (i := 2) (v := .pointer (some ⟨E e, 11, none⟩)) rfl (by kernel_rfl) (by kernel_rfl) (by kernel_rfl) (fun _ _ _ h => h) (Or.inl ⟨by rfl, fun w => by go_simp⟩) ?_
        apply both_of
        case k =>
          intro common
          refine wpAny_ready (rs := [3, 4, 5]) (by kernel_rfl) (by simp) ?_
          refine (AllReady.cons rfl (fun K hK => ?_) (AllReady.cons rfl (fun K hK => ?_) (AllReady.cons rfl (fun K hK => ?_) AllReady.nil)))
          · go_simp
            refine hK _ _ ?_
            clear hK K
            refine wpAny_ready (rs := [4, 5]) (by kernel_rfl) (by simp) ?_
            refine (AllReady.cons rfl (fun K hK => ?_) (AllReady.cons rfl (fun K hK => ?_) AllReady.nil))
            · go_simp
              refine hK _ _ ?_
              clear hK K
              refine wpAny_ready (rs := [5]) (by kernel_rfl) (by simp) ?_
              refine (AllReady.cons rfl (fun K hK => ?_) AllReady.nil)
              · refine step_load49 rfl (.tmp 3) rfl wr.heap.size rfl c' HK4.out HS'.out ?_
                try go_simp
                refine hK _ _ ?_
                clear hK K
                exact common
            · refine step_load49 rfl (.tmp 3) rfl wr.heap.size rfl c' HK4.out HS'.out ?_
              try go_simp
              refine hK _ _ ?_
              clear hK K
              refine wpAny_ready (rs := [4]) (by kernel_rfl) (by simp) ?_
              refine (AllReady.cons rfl (fun K hK => ?_) AllReady.nil)
              · go_simp
                refine hK _ _ ?_
                clear hK K
                exact common
          · go_simp
            refine hK _ _ ?_
            clear hK K
            refine wpAny_ready (rs := [3, 5]) (by kernel_rfl) (by simp) ?_
            refine (AllReady.cons rfl (fun K hK => ?_) (AllReady.cons rfl (fun K hK => ?_) AllReady.nil))
            · go_simp
              refine hK _ _ ?_
              clear hK K
              refine wpAny_ready (rs := [5]) (by kernel_rfl) (by simp) ?_
              refine (AllReady.cons rfl (fun K hK => ?_) AllReady.nil)
              · refine step_load49 rfl (.tmp 3) rfl wr.heap.size rfl c' HK4.out HS'.out ?_
                try go_simp
                refine hK _ _ ?_
                clear hK K
                exact common
            · refine step_load49 rfl (.tmp 3) rfl wr.heap.size rfl c' HK4.out HS'.out ?_
              try go_simp
              refine hK _ _ ?_
              clear hK K
              refine wpAny_ready (rs := [3]) (by kernel_rfl) (by simp) ?_
              refine (AllReady.cons rfl (fun K hK => ?_) AllReady.nil)
              · go_simp
                refine hK _ _ ?_
                clear hK K
                exact common
          · refine step_load49 rfl (.tmp 3) rfl wr.heap.size rfl c' HK4.out HS'.out ?_
            try go_simp
            refine hK _ _ ?_
            clear hK K
            refine wpAny_ready (rs := [3, 4]) (by kernel_rfl) (by simp) ?_
            refine (AllReady.cons rfl (fun K hK => ?_) (AllReady.cons rfl (fun K hK => ?_) AllReady.nil))
            · go_simp
              refine hK _ _ ?_
              clear hK K
              refine wpAny_ready (rs := [4]) (by kernel_rfl) (by simp) ?_
              refine (AllReady.cons rfl (fun K hK => ?_) AllReady.nil)
              · go_simp
                refine hK _ _ ?_
                clear hK K
                exact common
            · go_simp
              refine hK _ _ ?_
              clear hK K
              refine wpAny_ready (rs := [3]) (by kernel_rfl) (by simp) ?_
              refine (AllReady.cons rfl (fun K hK => ?_) AllReady.nil)
              · go_simp
                refine hK _ _ ?_
                clear hK K
                exact common
        case h =>
          refine wpAny_ready (rs := [6]) (by kernel_rfl) (by simp) ?_
          refine AllReady.cons rfl (fun K hK => ?_) AllReady.nil
          go_simp
          refine hK _ _ ?_
          clear hK K
          refine wpAny_done (by kernel_rfl) ?_ _
          go_wp2_with fail
          go_ret
          exact hfin
      | some R =>
        rw [hm] at e11
        have hnil := nil_some R
        go_upto_region 10 with fail
        have hI4 := HI3.out
        have HK4 := HK3.out
        have H54 := H58.out
        have hO4 := Old.of_below HB3.out
        have hS4 := HB3.out.size
        obtain ⟨W4, hW4⟩ : ∃ W4, W4 = wc := ⟨_, rfl⟩
        obtain ⟨mo4, hmo4⟩ : ∃ mo4, mo4 = mo := ⟨_, rfl⟩
        rw [← hW4] at HK4 H54 hO4 hS4 hI4
        change Code.wp _ _ _ _ wc
        rw [← hW4]
        rw [← hmo4] at hI4
        have hm4 : mo4 e = some R := by rw [hmo4, hm]
        clear hmo4 hW4
        have e11 : W4.cell? ⟨E e, 11, none⟩ = some (.map (some R)) := by rw [← hm4]; simp [World.cell?, hI4.ent e he, entA]
        have q0 : W4.cell? ⟨W1.heap.size, 0, none⟩ = some (.string (srcB s)) := by simp [World.cell?, H54]
        have q1 : W4.cell? ⟨W1.heap.size, 1, none⟩ = some (.string (propB p)) := by simp [World.cell?, H54]
        have HK4 : Hid (W4.heap[wr.heap.size]? = some (.cells c' 49 (0, 0))) := HK4
        obtain ⟨W5, hput, hfin⟩ : ∃ W5, (Instr.mapUpdate 34 (.map (some R)) (keyV s p) (.agg c')).run Yba.prog W4.drew = .ok () W5 ∧ OwnPost w wr Mo B E v mo T e s p st desc (newSeq (seqOf (look e s p T)) seq) (.returned (.string { data := #[] })) W5 := by
          rw [HC'.out, HL.out, hq]
          exact own_put hI4 hm4 hO4 hS4 he hs hp (newSeq_range hbd hsb (by rw [HL.out]; exact hq)) hOK
        unfold keyV at hput
        clear hI4 H54 hO4 hS4 hm4 HI3 HK3 H58 HB3 hbd hOK hI hsb
        refine wp_region_any (by kernel_rfl) ?_
        change wpAny _ _ _ _ _ _ _ (World.drew _)
        refine wpAny_take (i := 0) (v := .pointer (some ⟨E e, 0, none⟩)) rfl (by kernel_rfl) (by kernel_rfl) (by kernel_rfl) (fun _ _ _ h => h) (Or.inl ⟨by rfl, fun w => by go_simp⟩) ?_
        refine wpAny_take (i := 1) (v := .pointer (some ⟨E e, 0, none⟩)) rfl (by kernel_rfl) (by kernel_rfl) (by kernel_rfl) (fun _ _ _ h => h) (Or.inl ⟨by rfl, fun w => by go_simp⟩) ?_
        refine wpAny_take (i := 2) (v := .pointer (some ⟨E e, 11, none⟩)) rfl (by kernel_rfl) (by kernel_rfl) (by kernel_rfl) (fun _ _ _ h => h) (Or.inl ⟨by rfl, fun w => by go_simp⟩) ?_
        apply both_of
        case k =>
          intro common
          refine wpAny_ready (rs := [3, 4, 5]) (by kernel_rfl) (by simp) ?_
          refine (AllReady.cons rfl (fun K hK => ?_) (AllReady.cons rfl (fun K hK => ?_) (AllReady.cons rfl (fun K hK => ?_) AllReady.nil)))
          · go_simp
            refine hK _ _ ?_
            clear hK K
            refine wpAny_ready (rs := [4, 5]) (by kernel_rfl) (by simp) ?_
            refine (AllReady.cons rfl (fun K hK => ?_) (AllReady.cons rfl (fun K hK => ?_) AllReady.nil))
            · go_simp
              refine hK _ _ ?_
              clear hK K
              refine wpAny_ready (rs := [5]) (by kernel_rfl) (by simp) ?_
              refine (AllReady.cons rfl (fun K hK => ?_) AllReady.nil)
              · refine step_load49 rfl (.tmp 3) rfl wr.heap.size rfl c' HK4.out HS'.out ?_
                try go_simp
                refine hK _ _ ?_
                clear hK K
                exact common
            · refine step_load49 rfl (.tmp 3) rfl wr.heap.size rfl c' HK4.out HS'.out ?_
              try go_simp
              refine hK _ _ ?_
              clear hK K
              refine wpAny_ready (rs := [4]) (by kernel_rfl) (by simp) ?_
              refine (AllReady.cons rfl (fun K hK => ?_) AllReady.nil)
              · go_simp
                refine hK _ _ ?_
                clear hK K
                exact common
          · go_simp
            refine hK _ _ ?_
            clear hK K
            refine wpAny_ready (rs := [3, 5]) (by kernel_rfl) (by simp) ?_
            refine (AllReady.cons rfl (fun K hK => ?_) (AllReady.cons rfl (fun K hK => ?_) AllReady.nil))
            · go_simp
              refine hK _ _ ?_
              clear hK K
              refine wpAny_ready (rs := [5]) (by kernel_rfl) (by simp) ?_
              refine (AllReady.cons rfl (fun K hK => ?_) AllReady.nil)
              · refine step_load49 rfl (.tmp 3) rfl wr.heap.size rfl c' HK4.out HS'.out ?_
                try go_simp
                refine hK _ _ ?_
                clear hK K
                exact common
            · refine step_load49 rfl (.tmp 3) rfl wr.heap.size rfl c' HK4.out HS'.out ?_
              try go_simp
              refine hK _ _ ?_
              clear hK K
              refine wpAny_ready (rs := [3]) (by kernel_rfl) (by simp) ?_
              refine (AllReady.cons rfl (fun K hK => ?_) AllReady.nil)
              · go_simp
                refine hK _ _ ?_
                clear hK K
                exact common
          · refine step_load49 rfl (.tmp 3) rfl wr.heap.size rfl c' HK4.out HS'.out ?_
            try go_simp
            refine hK _ _ ?_
            clear hK K
            refine wpAny_ready (rs := [3, 4]) (by kernel_rfl) (by simp) ?_
            refine (AllReady.cons rfl (fun K hK => ?_) (AllReady.cons rfl (fun K hK => ?_) AllReady.nil))
            · go_simp
              refine hK _ _ ?_
              clear hK K
              refine wpAny_ready (rs := [4]) (by kernel_rfl) (by simp) ?_
              refine (AllReady.cons rfl (fun K hK => ?_) AllReady.nil)
              · go_simp
                refine hK _ _ ?_
                clear hK K
                exact common
            · go_simp
              refine hK _ _ ?_
              clear hK K
              refine wpAny_ready (rs := [3]) (by kernel_rfl) (by simp) ?_
              refine (AllReady.cons rfl (fun K hK => ?_) AllReady.nil)
              · go_simp
                refine hK _ _ ?_
                clear hK K
                exact common
        case h =>
          refine wpAny_ready (rs := [6]) (by kernel_rfl) (by simp) ?_
          refine AllReady.cons rfl (fun K hK => ?_) AllReady.nil
          go_simp
          refine hK _ _ ?_
          clear hK K
          refine wpAny_done (by kernel_rfl) ?_ _
          go_wp2_with fail
          go_ret
          exact hfin
end
end Go.Proofs.Ybulkbwfg
