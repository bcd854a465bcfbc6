/-
  What LawS3634BGrow's memory is ahead of grow and behind it.
-/
import Derived.Test.YbulkbwfuBuildWalk
import Derived.Test.YbulkbwfuGrowWalk
import Derived.Laws.IdiomStrings
import Derived.LaidEqlPtr
namespace Go.Proofs.Ybulkbwfu
open Go.RowKit Go.Proofs

/-- Ahead of grow: o's box, the block behind all that w1 holds, holds a slice of n of the n + e members, or nil where there are none. -/
def Ahead (w1 wx : World) (F n e : Nat) : Prop :=
  Below w1.heap.size w1 wx ∧ w1.heap.size < wx.heap.size ∧ wx.frozen? ⟨w1.heap.size, 0, none⟩ = false ∧
    ∃ ao, wx.cell? ⟨w1.heap.size, 0, none⟩ = some (.slice ao n (n + e)) ∧ (ao = some ⟨F, 0, none⟩ ∨ (ao = none ∧ n = 0 ∧ e = 0))

theorem ahead_start (w1 : World) (F n e : Nat) : Ahead w1 (w1.alloc (.cells #[.slice (some ⟨F, 0, none⟩) n (n + e)] 28)) F n e :=
  ⟨(Below.refl _ _).alloc (Nat.le_refl _) _, by simp, World.frozen?_alloc_at _ _ _ _ rfl, _, by rw [World.cell?_alloc_at _ _ _ _ rfl]; rfl, .inl rfl⟩

theorem ahead_nil (w1 : World) (F n e : Nat) (h0 : n = 0) (h1 : e = 0) : Ahead w1 (w1.alloc (.cells #[.slice none 0 0] 28)) F n e := by
  subst h0
  subst h1
  exact ⟨(Below.refl _ _).alloc (Nat.le_refl _) _, by simp, World.frozen?_alloc_at _ _ _ _ rfl, none, by rw [World.cell?_alloc_at _ _ _ _ rfl]; rfl, .inr ⟨rfl, rfl, rfl⟩⟩

/-- Behind grow: p leads to member n of block G, which is F where there was room and else a new block with the same first members and a zero member behind them. -/
structure After (w1 wx : World) (F G n e : Nat) : Prop where
  below : Below w1.heap.size w1 wx
  slot : ∃ cap, wx.cell? ⟨w1.heap.size, 0, none⟩ = some (.slice (some ⟨G, 0, none⟩) (n + 1) cap)
  same : ∀ j u, j < n * 3 → w1.cell? ⟨F, j, none⟩ = some u → wx.cell? ⟨G, j, none⟩ = some u
  room : 0 < e → G = F
  fresh : e = 0 → ∀ i, i < 3 → wx.cell? ⟨G, n * 3 + i, none⟩ = some (.slice none 0 0)

theorem after_room {w1 wx w3 : World} {F n e : Nat} (hb : Below w1.heap.size w1 wx) (hc : ∃ u, wx.cell? ⟨w1.heap.size, 0, none⟩ = some u) (he : 0 < e) (hs : Sto wx w3 w1.heap.size (.slice (some ⟨F, 0, none⟩) (n + 1) (n + e))) : After w1 w3 F F n e := by
  have hb3 : Below w1.heap.size w1 w3 := ⟨hs.os.trans hb.os, hs.tape.trans hb.tape, hs.output.trans hb.output, by rw [hs.heap]; simp [World.setCell]; exact hb.size, fun k hk => by
    rw [hs.heap, Below.heap_setCell _ _ _ _ (by simp; omega)]
    exact hb.block k hk⟩
  refine ⟨hb3, ⟨n + e, ?_⟩, fun j u _ hu => cell_later hb3 hu, fun _ => rfl, fun h => absurd h (by omega)⟩
  obtain ⟨u, hu⟩ := hc
  have : ∀ a, w3.cell? a = (wx.setCell ⟨w1.heap.size, 0, none⟩ (.slice (some ⟨F, 0, none⟩) (n + 1) (n + e))).cell? a := fun a => by simp only [World.cell?, hs.heap]
  rw [this]
  exact World.cell?_setCell_same _ _ _ hu

theorem after_full {w1 wx w3 : World} {F G n cap : Nat} {olds : List Value} (hb : Below w1.heap.size w1 wx) (hlt : w1.heap.size < wx.heap.size) (ho : ∀ j u, j < n * 3 → w1.cell? ⟨F, j, none⟩ = some u → olds[j]? = some u) (hg : Grew wx w3 w1.heap.size G n cap olds) : After w1 w3 F G n 0 := by
  refine ⟨⟨hg.os.trans hb.os, hg.tape.trans hb.tape, hg.output.trans hb.output, Nat.le_trans hb.size hg.size, fun k hk => ?_⟩, ⟨cap, hg.slot⟩, fun j u h1 h2 => hg.old j u (ho j u h1 h2), fun h => absurd h (by omega), fun _ i hi => hg.new i hi⟩
  rw [hg.block k (by omega) (by omega)]
  exact hb.block k hk

/-- The first members, as both slices read them. -/
theorem After.two {w w1 wx : World} {F G n e T : Nat} {NM : Nat → ByteArray} {C : Nat → Int} (h : After w1 wx F G n e) (hb : Built w w1 F T T NM C) (hT : n ≤ T) (i : Nat) (hi : i < n) :
    ∃ nb nc vb vc, wx.cell? ⟨G, i * 3, none⟩ = some (.slice (some ⟨nb, 0, none⟩) (NM i).size nc) ∧ wx.cell? ⟨G, i * 3 + 1, none⟩ = some (.slice (some ⟨vb, 0, none⟩) 1 vc) ∧ wx.cell? ⟨G, i * 3 + 2, none⟩ = some (.slice none 0 0) ∧
      wx.cell? ⟨F, i * 3, none⟩ = some (.slice (some ⟨nb, 0, none⟩) (NM i).size nc) ∧ wx.cell? ⟨F, i * 3 + 1, none⟩ = some (.slice (some ⟨vb, 0, none⟩) 1 vc) ∧
      (∀ t, t < (NM i).size → wx.cell? ⟨nb, t, none⟩ = some (.int .u8 ((NM i).data.toList.getD t 0).toNat)) ∧ wx.cell? ⟨vb, 0, none⟩ = some (.int .u8 (C i)) := by
  obtain ⟨nb, nc, vb, vc, h1, h2, h3, h4, h5, _, _⟩ := hb.done i (by omega)
  exact ⟨nb, nc, vb, vc, h.same _ _ (by omega) h1, h.same _ _ (by omega) h2, h.same _ _ (by omega) h3, cell_later h.below h1, cell_later h.below h2, fun t ht => cell_later h.below (h4 t ht), cell_later h.below h5⟩

/-- The new member where there was room. -/
theorem After.spare {w w1 wx : World} {F G n e T : Nat} {NM : Nat → ByteArray} {C : Nat → Int} (h : After w1 wx F G n e) (hb : Built w w1 F T T NM C) (hT : n < T) :
    ∃ nb nc vb vc, wx.cell? ⟨F, n * 3, none⟩ = some (.slice (some ⟨nb, 0, none⟩) (NM n).size nc) ∧ wx.cell? ⟨F, n * 3 + 1, none⟩ = some (.slice (some ⟨vb, 0, none⟩) 1 vc) ∧ wx.cell? ⟨F, n * 3 + 2, none⟩ = some (.slice none 0 0) ∧
      (∀ t, t < (NM n).size → wx.cell? ⟨nb, t, none⟩ = some (.int .u8 ((NM n).data.toList.getD t 0).toNat)) ∧ wx.cell? ⟨vb, 0, none⟩ = some (.int .u8 (C n)) := by
  obtain ⟨nb, nc, vb, vc, h1, h2, h3, h4, h5, _, _⟩ := hb.done n (by omega)
  exact ⟨nb, nc, vb, vc, cell_later h.below h1, cell_later h.below h2, cell_later h.below h3, fun t ht => cell_later h.below (h4 t ht), cell_later h.below h5⟩

/-- A name read back, whatever draws have been made. -/
theorem name_back {w : World} {nb nc : Nat} {S : ByteArray} (hc : ∀ t, t < S.size → w.cell? ⟨nb, t, none⟩ = some (.int .u8 (S.data.toList.getD t 0).toNat)) (k : Nat) :
    (convert 22 9 (.slice (some ⟨nb, 0, none⟩) S.size nc)).run Yba.prog (w.drewN k) = .ok (.string S) (w.drewN k) := by
  have hl : S.data.toList.length = S.size := rfl
  have := run_convert_bytes_back (P := Yba.prog) (w.drewN k) 22 9 5 ⟨nb, 0, none⟩ nc S.data.toList Yba.underlying22 Yba.underlying5 Yba.underlying9 (fun j hj => by
    rw [Addr.add_lit]
    have e : (w.drewN k).cell? ⟨nb, 0 + j, none⟩ = w.cell? ⟨nb, j, none⟩ := by rw [Nat.zero_add]; simp only [World.cell?, (drewN_parts w k).1]
    rw [e, hc j (by omega)]
    simp [List.getD, List.getElem?_eq_getElem hj])
  rw [hl] at this
  exact this

theorem neq_ptr (a : Addr) (w : World) : (binOp .neq 30 (.pointer (some a)) (.pointer (some a))).run Yba.prog w = .ok (.bool false) w := by
  obtain ⟨j, hj, _, _, _⟩ := info_parts Yba.info33
  have h : ∀ d : Nat, (Op.equalIn (d + 1) 30 (.pointer (some a)) (.pointer (some a))).run Yba.prog w = .ok true w := fun d => by
    simp [Op.equalIn, run_underlying Yba.underlying30, sizeOf, typeInfo, hj, run_sameAddr_same]
  simp only [binOp]
  simp [Op.equal, Op.maxDepth, h 9999]
theorem neq_nil (w : World) : (binOp .neq 28 (.slice none 0 0) (.slice none 0 0)).run Yba.prog w = .ok (.bool false) w := by kernel_rfl
theorem eql_nil28 (w : World) : (binOp .eql 28 (.slice none 0 0) (.slice none 0 0)).run Yba.prog w = .ok (.bool true) w := by kernel_rfl
theorem eql_nil22 (w : World) : (binOp .eql 22 (.slice none 0 0) (.slice none 0 0)).run Yba.prog w = .ok (.bool true) w := by kernel_rfl

set_option maxHeartbeats 400000 in
/-- 'zzs3634bspare' at nought (function 11). -/
theorem spare_any (asp : Option Addr) (m mc mb mo : Nat) (S : Nat → ByteArray) (w : World) (hm : m ≤ 1024) (has : 0 < m → asp = some ⟨mb, mo, none⟩) (hS : ∀ i, i < m → w.cell? ⟨mb, mo + i, none⟩ = some (.string (S i))) :
    Calls Yba.prog 11 #[.slice asp m mc, .int .i64 0] w fun ex w' => ex = .returned (.string (spareAt m S 0)) ∧ w' = w := by
  unfold spareAt
  by_cases h0 : m = 0
  · subst h0
    rw [if_pos rfl]
    go_enter Yba.func11, Yba.ntmps11
    go_wp2
    go_ret
    exact ⟨rfl, rfl⟩
  · obtain rfl := has (by omega)
    have hc : w.cell? ⟨mb, mo, none⟩ = some (.string (S 0)) := by simpa using hS 0 (by omega)
    rw [if_neg h0, Nat.zero_mod]
    have hp : (0 : Int) < (m : Int) := by omega
    have hz : ((m : Int) == 0) = false := beq_eq_false_iff_ne.2 (by omega)
    clear hS
    go_enter Yba.func11, Yba.ntmps11
    go_wp2
    go_ret
    exact ⟨rfl, rfl⟩
end Go.Proofs.Ybulkbwfu
