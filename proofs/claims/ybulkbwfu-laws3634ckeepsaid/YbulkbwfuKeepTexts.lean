/-
  '(*roomRun).keepTexts' (function 13): its append as a step of a region that draws, and its walk.
-/
import Derived.Test.YbulkbwfuKeepFill
namespace Go.Proofs.Ybulkbwfu
open Go.RowKit Go.Proofs

/-- A value that owns its row is a slice. -/
theorem ownsRow_slice {w : World} {B : Nat} {e : TypeId} {size : Nat} {v : Value} {n : Nat} {xs : List Value} (h : w.ownsRow B e size v n xs) : ∃ ao cp, v = .slice ao n cp := by
  rcases h.2 with ⟨rfl, rfl⟩ | ⟨g, cap, cur, rfl, _⟩
  · exact ⟨none, 0, rfl⟩
  · exact ⟨_, cap, rfl⟩

/-- 'append(b, t[lo:hi]...)', b a row of bytes that the call owns, as one step of a region that draws its order. -/
theorem step_piece {ops : Array Oper} {o : Oper} {a : Act} {K : Act → World → Prop} {Q : Exit → Act → World → Prop} {E : Prop} (w : World) (hgd : o.guard = none) (s x : Operand)
    (ho : o.op = .call { callee := .builtin .append, args := #[s, x], argTypes := #[22, 22] })
    (B : Nat) (ao : Option Addr) (m cp : Nat) (xs : List Value) (hs : a.eval s = .slice ao m cp) (hown : w.ownsRow B 5 1 (.slice ao m cp) m xs)
    (ax : Option Addr) (q c : Nat) (news : List Int) (hx : a.eval x = .slice ax q c) (hq : news.length = q) (hax : ∃ ad, ax = some ad ∧ ∀ i, i < q → w.cell? (ad.add i) = some (.int .u8 (news.getD i 0)))
    (tot : Nat) (htot : tot = m + q) (hm : tot ≤ 100000000) (hbase : B ≤ w.heap.size)
    (h : ∀ ao' cp' w', w'.ownsRow B 5 1 (.slice ao' tot cp') tot (xs ++ news.map (Value.int .u8)) → (ao.isSome = true → ao'.isSome = true) → w.grownBy w' (Value.ownBlock (.slice ao m cp)) → K (a.put o.dst (.slice ao' tot cp')) w') :
    if Region.wanted o (yielded ops a.tmps) = true then Oper.wp Yba.prog o a w K Q else E := by
  have hw : Region.wanted o (yielded ops a.tmps) = true := by simp [Region.wanted, hgd]
  rw [if_pos hw]
  subst htot
  obtain ⟨i0, hi, hz0, hz1, hz2⟩ := info_parts Yba.info5
  obtain ⟨ad, rfl, hc⟩ := hax
  have hcells : ∀ j u, (news.map (Value.int .u8))[j]? = some u → w.cell? (ad.add j) = some u := fun j u hj => by
    have hjl : j < news.length := by
      have := (List.getElem?_eq_some_iff.1 hj).1
      simpa using this
    rw [hc j (by omega)]
    simp [List.getElem?_eq_getElem hjl] at hj
    subst hj
    simp [List.getD, List.getElem?_eq_getElem hjl]
  obtain ⟨v', w', hr, h2, h3, h4⟩ := run_append_own (P := Yba.prog) w B 22 o.type 5 i0 (.int .u8 0) 1 1 Yba.underlying22 hi hz0 hz1 hz2 rfl (by decide) (.slice ao m cp) m xs hown ad q c (news.map (Value.int .u8)) (by simpa using hq) hcells (ints_oneCell .u8 news) (by unfold maxLen; omega) (by omega) hbase
  obtain ⟨ao', cp', rfl⟩ := ownsRow_slice h2
  unfold Oper.wp execOp
  simp only [ho, resolve, invoke, builtin, Sem.run_bind, Sem.run_pure, Result.andThen_ok, List.map_toArray, List.map_cons, List.map_nil, hs, hx, hr]
  refine h ao' cp' w' h2 (fun hs => ?_) h3
  cases ao' with
  | some b => rfl
  | none =>
    have h5 := h2.2
    rcases h5 with ⟨h5, _⟩ | ⟨g, cap, cur, h5, _⟩
    · have := (h4.1 h5).1
      rw [Value.slice.injEq] at this
      rw [this.1] at hs
      cases hs
    · cases h5

def posOf (D : Data) (n i : Nat) : Nat × Nat := (D.pos n i, D.pos n (i + 1))
/-- The messages when j of them have their new spans. -/
def turnF (D : Data) (n j : Nat) : Nat → Nat → Value := fun i c => if i < j then D.cell (posOf D n) i c else D.cell (spanOf D n) i c

theorem make_room (c : Int) (n : Nat) (hc : c = (n : Int)) (hn : n ≤ 100000000) (w : World) :
    (Instr.makeSlice 22 (.int .i64 0) (.int .i64 c)).run Yba.prog w = .ok (.slice (some ⟨w.heap.size, 0, none⟩) 0 n) (w.alloc (.cells (madeCells #[.int .u8 0] n) 5)) := by
  subst hc
  obtain ⟨i, hi, hz, hs, hb⟩ := info_parts Yba.info5
  have := run_make (P := Yba.prog) w 22 5 i _ Yba.underlying22 hi hz .i64 .i64 0 (n : Int) (Int.le_refl _) (by omega) (by rw [hb]; omega) (by omega)
  simpa [hs, Value.cells] using this

theorem Data.bounds (D : Data) (n i : Nat) : D.lo n i ≤ D.hi n i ∧ D.hi n i ≤ n := ⟨lo_le_hi n (D.A i) (D.B i), hi_le n (D.A i) (D.B i)⟩

/-- What holds at the second loop's head: j messages are turned, their texts are owned. -/
structure Turn (w wb wx : World) (O R M P n k : Nat) (L : List Int) (cl : Bool) (la fi : Int) (D : Data) (G : Nat → Nat → Value) (j : Nat) (ao : Option Addr) (m cp : Nat) : Prop where
  keep : Keep w wx O R M P k L cl la fi (.slice (some ⟨O, 0, none⟩) n n) (turnF D n j) G
  own : wx.ownsRow wb.heap.size 5 1 (.slice ao m cp) m ((D.upto n L j).map (Value.int .u8))
  base : wb.heap.size ≤ wx.heap.size
  far : ∀ b, b < wb.heap.size → b ≠ M → wx.heap[b]? = wb.heap[b]?
  len : m = D.pos n j

theorem turn_step {w wb wr w3 : World} {O R M P n k t m cp cp' tot : Nat} {L : List Int} {cl : Bool} {la fi : Int} {D : Data} {G : Nat → Nat → Value} {ao ao' : Option Addr} (h : Turn w wb wr O R M P n k L cl la fi D G t ao m cp) (ht : t < k) (hP : P < wb.heap.size) (hM : M < wb.heap.size) (hb : Below wb.heap.size wr w3)
    (htot : tot = m + (D.hi n t - D.lo n t)) (hown : w3.ownsRow wb.heap.size 5 1 (.slice ao' tot cp') tot ((D.upto n L t).map (Value.int .u8) ++ (D.piece n L t).map (Value.int .u8))) :
    Turn w wb ((w3.setCell ⟨M, t * 8 + 5, none⟩ (.int .i64 (m : Int))).setCell ⟨M, t * 8 + 6, none⟩ (.int .i64 (tot : Int))) O R M P n k L cl la fi D G (t + 1) ao' tot cp' := by
  subst htot
  have hK := h.keep.keep hb hP
  have hlen := h.len
  have hpos : m + (D.hi n t - D.lo n t) = D.pos n (t + 1) := by rw [hlen]; rfl
  refine ⟨?_, ?_, ?_, ?_, hpos⟩
  · refine (hK.setMsgs (row8_text hK.msgs t (.int .i64 (m : Int)) (.int .i64 ((m + (D.hi n t - D.lo n t) : Nat) : Int))) ?_ ?_ ?_ ?_ ?_).congr (fun i c _ _ => ?_) (fun _ _ _ _ => rfl)
    · rw [size_setCell', size_setCell']; exact Nat.le_refl _
    · simp only [os_setCell']
    · simp only [tape_setCell']
    · simp only [output_setCell']
    · intro b hb' _
      rw [heap_setCell_ne' _ _ _ _ hb', heap_setCell_ne' _ _ _ _ hb']
    · rw [hpos, hlen]
      unfold turnF
      by_cases e : i = t
      · subst e
        rw [if_pos rfl, if_pos (show i < i + 1 by omega), if_neg (show ¬ i < i by omega)]
        unfold Data.cell posOf spanOf
        by_cases h5 : c = 5
        · subst h5; rfl
        · rw [if_neg h5]
          by_cases h6 : c = 6
          · subst h6; rfl
          · rw [if_neg h6]
            simp only [h5, h6, if_false]
      · rw [if_neg e]
        by_cases h' : i < t
        · rw [if_pos h', if_pos (show i < t + 1 by omega)]
        · rw [if_neg h', if_neg (show ¬ i < t + 1 by omega)]
  · have e : (D.upto n L (t + 1)).map (Value.int .u8) = (D.upto n L t).map (Value.int .u8) ++ (D.piece n L t).map (Value.int .u8) := by
      show (D.upto n L t ++ D.piece n L t).map _ = _
      rw [List.map_append]
    rw [e]
    exact ownsRow_setCell_below (ownsRow_setCell_below hown (a := ⟨M, t * 8 + 5, none⟩) hM _) (a := ⟨M, t * 8 + 6, none⟩) hM _
  · rw [size_setCell', size_setCell']; exact Nat.le_trans h.base hb.size
  · intro b h1 h2
    rw [heap_setCell_ne' _ _ _ _ h2, heap_setCell_ne' _ _ _ _ h2, hb.block b h1]
    exact h.far b h1 h2

/-- What keepTexts leaves. -/
def Turned (w wb w' : World) (O R M P n k : Nat) (L : List Int) (cl : Bool) (la fi : Int) (D : Data) (G : Nat → Nat → Value) : Prop :=
  ∃ ao cp, Keep w w' O R M P k L cl la fi (.slice ao (D.pos n k) cp) (turnF D n k) G ∧ w'.ownsRow wb.heap.size 5 1 (.slice ao (D.pos n k) cp) (D.pos n k) ((D.upto n L k).map (Value.int .u8)) ∧
    wb.heap.size ≤ w'.heap.size ∧ ∀ b, b < wb.heap.size → b ≠ M → b ≠ R → w'.heap[b]? = wb.heap[b]?

theorem turn_done {w wb wr : World} {O R M P n k m cp : Nat} {L : List Int} {cl : Bool} {la fi : Int} {D : Data} {G : Nat → Nat → Value} {ao : Option Addr} (h : Turn w wb wr O R M P n k L cl la fi D G k ao m cp) (hR : R < wb.heap.size) :
    Turned w wb (wr.setCell ⟨R, 3, none⟩ (.slice ao m cp)) O R M P n k L cl la fi D G := by
  obtain rfl := h.len
  have hK := h.keep
  have h1 := hK.hO
  have h2 := hK.hOR
  have h3 := hK.hRM
  have h4 := hK.hMP
  refine ⟨ao, cp, ⟨?_, ?_, ?_, ?_, ?_, h1, h2, h3, h4⟩, ?_, ?_, ?_⟩
  · exact hK.below.setCell (by show w.heap.size ≤ R; omega) _
  · rw [heap_setCell_ne' _ _ _ _ (by show O ≠ R; omega)]
    exact hK.old
  · have := hK.run
    simp [World.setCell, Array.getElem?_modify, this]
  · exact hK.msgs.setOther (by show M ≠ R; omega) _
  · exact hK.spans.setOther (by show P ≠ R; omega) _
  · exact ownsRow_setCell_below h.own (a := ⟨R, 3, none⟩) hR _
  · rw [size_setCell']; exact h.base
  · intro b hb1 hb2 hb3
    rw [heap_setCell_ne' _ _ _ _ hb3]
    exact h.far b hb1 hb2

/-- Where t[lo:hi] lies. -/
theorem piece_at {w wx : World} {O R M P k n : Nat} {L : List Int} {cl : Bool} {la fi : Int} {tx : Value} {F G : Nat → Nat → Value} {D : Data} (h : Keep w wx O R M P k L cl la fi tx F G) (hL : L.length = n) (j : Nat) :
    ∃ ad, (if n = D.lo n j then (some ⟨O, 0, none⟩ : Option Addr) else some ⟨O, D.lo n j, none⟩) = some ad ∧ ∀ i, i < D.hi n j - D.lo n j → wx.cell? (ad.add i) = some (.int .u8 ((D.piece n L j).getD i 0)) := by
  have hb := D.bounds n j
  by_cases e : n = D.lo n j
  · rw [if_pos e]
    exact ⟨_, rfl, fun i hi => absurd hi (by omega)⟩
  · rw [if_neg e]
    refine ⟨_, rfl, fun i hi => ?_⟩
    rw [Addr.add_lit, h.oldCell (D.lo n j + i) (by omega)]
    unfold Data.piece
    simp [List.getD, hi]

theorem piece_at' {w wx : World} {O R M P k n x y : Nat} {L : List Int} {cl : Bool} {la fi : Int} {tx : Value} {F G : Nat → Nat → Value} {D : Data} (h : Keep w wx O R M P k L cl la fi tx F G) (hL : L.length = n) (j : Nat) (hx : x = D.lo n j) (hy : y = D.hi n j) :
    ∃ ad, (if n = x then (some ⟨O, 0, none⟩ : Option Addr) else some ⟨O, x, none⟩) = some ad ∧ ∀ i, i < y - x → wx.cell? (ad.add i) = some (.int .u8 ((D.piece n L j).getD i 0)) := by
  subst hx
  subst hy
  exact piece_at h hL j

set_option maxHeartbeats 2000000 in
set_option maxRecDepth 100000 in
theorem texts_any (w wb : World) (O R M P n k : Nat) (L : List Int) (cl : Bool) (la fi : Int) (D : Data) (G : Nat → Nat → Value) (hn : n ≤ 4096) (hk : k ≤ 512) (hL : L.length = n)
    (hK : Keep w wb O R M P k L cl la fi (.slice (some ⟨O, 0, none⟩) n n) (turnF D n 0) G) :
    Calls Yba.prog 13 #[.pointer (some ⟨R, 0, none⟩)] wb fun e w' => e = .returned (.tuple #[]) ∧ Turned w wb w' O R M P n k L cl la fi D G := by
  have hp : ∀ j, j ≤ k → D.pos n j ≤ 2097152 := fun j hj => by
    have h1 := D.pos_le n j
    have h2 : j * n ≤ 512 * 4096 := Nat.mul_le_mul (by omega) hn
    omega
  have HP : Hid (∀ j, j ≤ k → D.pos n j ≤ 2097152) := hp
  clear hp
  have r2 := hK.runCell.2.2.1
  go_enter Yba.func13, Yba.ntmps13
  go_wp2_with fail
  clear r2
  go_loopg [2, 14] k (fun g s i wx => ∃ j : Nat, j ≤ k ∧ g = k - j ∧ s = .int .i64 (D.pos n j : Int) ∧ i = .int .i64 j ∧ Below wb.heap.size wb wx)
  case atStart => exact ⟨0, Nat.zero_le _, rfl, rfl, rfl, Below.refl _ _⟩
  case round =>
    obtain ⟨j, hj, rfl, rfl, rfl, hb⟩ := hrel
    by_cases hlt : j < k
    · have hK2 := hK.keep hb hK.lt
      have m0 := row8_cell hK2.msgs j 0 hlt (by omega)
      have m1 := row8_cell hK2.msgs j 1 hlt (by omega)
      have m2 := row8_cell hK2.msgs j 2 hlt (by omega)
      have m3 := row8_cell hK2.msgs j 3 hlt (by omega)
      have m4 := row8_cell hK2.msgs j 4 hlt (by omega)
      have m5 := row8_cell hK2.msgs j 5 hlt (by omega)
      have m6 := row8_cell hK2.msgs j 6 hlt (by omega)
      have m7 := row8_cell hK2.msgs j 7 hlt (by omega)
      rw [Nat.add_zero] at m0
      simp only [turnF, Nat.not_lt_zero, if_false, Data.cell, spanOf] at m0 m1 m2 m3 m4 m5 m6 m7
      clear hK2
      obtain ⟨b1, b2⟩ := D.bounds n j
      have b3 := HP.out j hj
      go_wp2_with fail
      go_roundg (k - (j + 1))
      case measure => omega
      case rel => exact ⟨j + 1, by omega, rfl, by show Value.int .i64 _ = Value.int .i64 ((D.pos n j + (D.hi n j - D.lo n j) : Nat) : Int); go_num, by go_num, hb.alloc hb.size _⟩
    · have hjk : j = k := by omega
      subst hjk
      have hK2 := hK.keep hb hK.lt
      have r2 := hK2.runCell.2.2.1
      have hmr := make_room (D.pos n j : Int) (D.pos n j) rfl (by have := HP.out j hj; omega)
      have hT : Turn w wb (wr.alloc (.cells (madeCells #[.int .u8 0] (D.pos n j)) 5)) O R M P n j L cl la fi D G 0 (some ⟨wr.heap.size, 0, none⟩) 0 (D.pos n j) :=
        ⟨hK2.keep ((Below.refl _ _).alloc (Nat.le_refl _) _) hK2.lt, World.ownsRow_made wr _ _ hb.size (by unfold maxLen; have := HP.out j hj; omega) (by simp [size_madeCells]), by simp; have := hb.size; omega, fun b h1 _ => by
          rw [Below.heap_alloc _ _ _ (by have := hb.size; omega)]
          exact hb.block b h1, rfl⟩
      have x0 : R < wr.heap.size := Nat.lt_trans hK2.hRM hK2.msgs.lt
      clear hK2
      go_wp2_with fail
      clear r2 hmr x0
      go_loopg [5, 35] j (fun g v i wx => ∃ t : Nat, t ≤ j ∧ g = j - t ∧ i = .int .i64 t ∧ ∃ ao m cp, v = .slice ao m cp ∧ Turn w wb wx O R M P n j L cl la fi D G t ao m cp)
      case atStart => exact ⟨0, Nat.zero_le _, rfl, rfl, _, _, _, rfl, hT⟩
      case round =>
        clear hT hb
        obtain ⟨t, ht, rfl, rfl, ao, m, cp, rfl, hT⟩ := hrel
        by_cases htk : t < j
        · obtain ⟨c0, c1, c2, c3, _, _, _⟩ := hT.keep.runCell
          have m5 := row8_cell hT.keep.msgs t 5 htk (by omega)
          have m6 := row8_cell hT.keep.msgs t 6 htk (by omega)
          have mf := hT.keep.msgs.frozen
          have fe5 : turnF D n t t 5 = .int .i64 (D.lo n t : Int) := by unfold turnF; rw [if_neg (by omega)]; rfl
          have fe6 : turnF D n t t 6 = .int .i64 (D.hi n t : Int) := by unfold turnF; rw [if_neg (by omega)]; rfl
          rw [fe5] at m5
          rw [fe6] at m6
          obtain ⟨b1, b2⟩ := D.bounds n t
          have b3 := HP.out t ht
          have b4 := HP.out (t + 1) (by omega)
          have hpl := D.piece_length hL t
          have hmb : m ≤ 2097152 := by rw [hT.len]; exact b3
          obtain ⟨tot, htot⟩ : ∃ tot, tot = m + (D.hi n t - D.lo n t) := ⟨_, rfl⟩
          have htb : tot ≤ 2097152 := by
            have e : D.pos n (t + 1) = D.pos n t + (D.hi n t - D.lo n t) := rfl
            have := hT.len
            omega
          have HT : Hid (tot = m + (D.hi n t - D.lo n t)) := htot
          clear htot b3 b4
          obtain ⟨x, hx⟩ : ∃ x, x = D.lo n t := ⟨_, rfl⟩
          obtain ⟨y, hy⟩ : ∃ y, y = D.hi n t := ⟨_, rfl⟩
          rw [← hx, ← hy] at b1
          rw [← hy] at b2
          rw [← hx] at m5
          rw [← hy] at m6
          rw [← hx, ← hy] at hpl
          have HT' : Hid (tot = m + (y - x)) := by unfold Hid; rw [hx, hy]; exact HT.out
          have HX : Hid (x = D.lo n t) := hx
          have HY : Hid (y = D.hi n t) := hy
          have HPL : Hid ((D.piece n L t).length = y - x) := hpl
          clear hx hy hpl fe5 fe6 c0 c1
          have z1 : (0 : Int) ≤ (x : Int) := by omega
          have z2 : (x : Int) ≤ (y : Int) := by omega
          have z3 : (y : Int) ≤ (n : Int) := by omega
          go_upto_region 12 with fail
          go_cut [5] (fun s5 wx => ∃ ao' cp', s5 = .slice ao' tot cp' ∧ wx.ownsRow wb.heap.size 5 1 (.slice ao' tot cp') tot ((D.upto n L t).map (Value.int .u8) ++ (D.piece n L t).map (Value.int .u8)) ∧ Below wb.heap.size wr wx)
          case first =>
            have hpa0 := piece_at' hT.keep.drew hL t HX.out HY.out
            by_cases hne : n = x
            · subst hne
              rw [if_pos rfl] at hpa0
              have e0 : y - n = 0 := by omega
              have hpl0 := HPL.out
              have htt0 := HT'.out
              rw [e0] at hpl0 htt0 hpa0
              have hpa := hpa0
              have HPL0 : Hid ((D.piece n L t).length = 0) := hpl0
              have HT0 : Hid (tot = m + 0) := htt0
              clear hpa0 hpl0 htt0 e0 HPL HT'
              go_region_law (refine step_piece _ rfl (.tmp 46) (.tmp 61) rfl wb.heap.size ao m cp _ (by rfl) hT.own.drew _ 0 _ (D.piece n L t) (by rfl) HPL0.out hpa tot HT0.out (by omega) hT.base ?_; intro ao' cp' w3 hown3 hsome3 hgrow3)
              all_goals
                have hb3 : Below wb.heap.size wr w3 := ((Below.refl _ _).drew).grown hgrow3 hT.base (fun b hb => (hT.own.lt b hb).1)
                clear hgrow3 hsome3 m5 m6 mf c2 c3 z1 z2 z3 hpa
                go_wp2_with fail
                go_meet
                exact ⟨ao', cp', rfl, hown3, hb3⟩
            · rw [if_neg hne] at hpa0
              have hpa := hpa0
              clear hpa0
              go_region_law (refine step_piece _ rfl (.tmp 46) (.tmp 61) rfl wb.heap.size ao m cp _ (by rfl) hT.own.drew _ (y - x) _ (D.piece n L t) (by rfl) HPL.out hpa tot HT'.out (by omega) hT.base ?_; intro ao' cp' w3 hown3 hsome3 hgrow3)
              all_goals
                have hb3 : Below wb.heap.size wr w3 := ((Below.refl _ _).drew).grown hgrow3 hT.base (fun b hb => (hT.own.lt b hb).1)
                clear hgrow3 hsome3 m5 m6 mf c2 c3 z1 z2 z3 hpa
                go_wp2_with fail
                go_meet
                exact ⟨ao', cp', rfl, hown3, hb3⟩
          case rest =>
            obtain ⟨ao', cp', rfl, hown3, hb3⟩ := hcut
            have hK3 := hT.keep.keep hb3 hK.lt
            have q5 := row8_cell hK3.msgs t 5 htk (by omega)
            have q6 := row8_cell hK3.msgs t 6 htk (by omega)
            have qf := hK3.msgs.frozen
            clear m5 m6 mf c2 c3 hK3 z1 z2 z3
            go_wp2_with fail
            go_roundg (j - (t + 1))
            case measure => omega
            case rel => exact ⟨t + 1, by omega, rfl, by go_num, ao', tot, cp', rfl, turn_step hT htk hK.lt hK.msgs.lt hb3 HT.out hown3⟩
        · have htj : t = j := by omega
          subst htj
          obtain ⟨_, _, _, c3, _, _, _⟩ := hT.keep.runCell
          have cf := hT.keep.runFrozen
          go_wp2_with fail
          go_end0
          exact ⟨rfl, turn_done hT (Nat.lt_trans hK.hRM hK.msgs.lt)⟩
end Go.Proofs.Ybulkbwfu
