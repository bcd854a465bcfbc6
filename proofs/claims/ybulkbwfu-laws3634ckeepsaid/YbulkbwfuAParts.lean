/-
  What the law over appendJSONString needs besides the two walks: reading a slice of bytes as a string, copying into a row that was just made, bytes.Equal (function 8).
-/
import Derived.Test.YbulkbwfuEsc
import Derived.Laws.BytesArg
import Derived.Deep.OwnRows
namespace Go.Proofs.Ybulkbwfu
open Go.RowKit Go.Proofs

/-- A slice of bytes as a string, whatever its address. -/
theorem conv_row (w : World) (x : Addr) (len cap : Nat) (L : List Int) (hL : L.length = len) (hc : ∀ i, i < len → w.cell? (x.add i) = some (.int .u8 (L.getD i 0))) :
    (convert 22 9 (.slice (some x) len cap)).run Yba.prog w = .ok (.string (strOfNums L)) w := by
  have hl : (loadCells x len).run Yba.prog w = .ok (L.map (Value.int .u8)).toArray w := by
    have := run_loadCells_list (P := Yba.prog) w x (L.map (Value.int .u8)) (fun j v hj => by
      have hjl : j < L.length := by
        rcases Nat.lt_or_ge j L.length with h | h
        · exact h
        · simp [List.getElem?_eq_none (show (L.map (Value.int .u8)).length ≤ j by simpa using h)] at hj
      rw [hc j (by omega)]
      simp [List.getElem?_eq_getElem hjl] at hj
      subst hj
      simp [List.getD, List.getElem?_eq_getElem hjl])
    simpa [hL] using this
  rw [run_convert_bytes_string w 22 9 5 _ len cap Yba.underlying22 Yba.underlying5 Yba.underlying9, run_bytesToString w _ len cap L hl, foldl_push_bytes]
  simp [strOfNums, ByteArray.empty, ByteArray.emptyWithCapacity]
  rfl

theorem conv_nil (w : World) : (convert 22 9 (.slice none 0 0)).run Yba.prog w = .ok (.string (strOfNums [])) w :=
  run_convert_bytes_nil w 22 5 Yba.underlying22 Yba.underlying5 0 0 9 Yba.underlying9

/-- What is owned, as a string. -/
theorem conv_own {w : World} {B n : Nat} {v : Value} {L : List Int} (h : w.ownsRow B 5 1 v n (L.map (Value.int .u8))) :
    (convert 22 9 v).run Yba.prog w = .ok (.string (strOfNums L)) w := by
  have hl : L.length = n := by simpa using h.1
  have h2 := h.2
  rcases h2 with ⟨rfl, rfl⟩ | ⟨g, cap, cur, rfl, hb, hg, _⟩
  · obtain rfl := List.eq_nil_of_length_eq_zero hl
    exact conv_nil w
  · refine conv_row w _ n cap L hl fun i hi => ?_
    refine h.cells (g := g) rfl i _ ?_
    simp [List.getD, show i < L.length by omega]

/-- Owned rows stay owned where all blocks below a bound that holds them stay. -/
theorem ownsRow_below {w w' : World} {B C n : Nat} {e : TypeId} {size : Nat} {v : Value} {xs : List Value} (h : w.ownsRow B e size v n xs) (hb : Below C w w') (hC : w.heap.size ≤ C) : w'.ownsRow B e size v n xs := by
  refine ⟨h.1, ?_⟩
  rcases h.2 with h2 | ⟨g, cap, cur, hv, hg, hh, r⟩
  · exact Or.inl h2
  · refine Or.inr ⟨g, cap, cur, hv, hg, ?_, r⟩
    obtain ⟨hlt, _⟩ := Array.getElem?_eq_some_iff.1 hh
    rw [hb.block g (by omega)]
    exact hh

/-- 'copy(dst, src)', dst n zero bytes that were just made, src n bytes. -/
theorem copy_full {ops : Array Oper} {rest : List Oper} {o : Oper} {a : Act} {Q : Exit → Act → World → Prop} (w : World) (hgd : o.guard = none) (d s : Operand)
    (ho : o.op = .call { callee := .builtin .copy, args := #[d, s], argTypes := #[22, 22] })
    (g n : Nat) (hd : a.eval d = .slice (some ⟨g, 0, none⟩) n n) (sp : Option Addr) (sCap : Nat) (hs : a.eval s = .slice sp n sCap)
    (hg : w.heap[g]? = some (.cells (madeCells #[.int .u8 0] n) 5 (0, 0))) (L : List Int) (hL : L.length = n)
    (hsrc : 0 < n → ∃ ad, sp = some ad ∧ ∀ i, i < n → w.cell? (ad.add i) = some (.int .u8 (L.getD i 0)))
    (h : ∀ w', w'.heap[g]? = some (.cells (L.map (Value.int .u8)).toArray 5 (0, 0)) → Below g w w' → wpList Yba.prog ops Q rest (a.put o.dst (goInt n)) w') : wpList Yba.prog ops Q (o :: rest) a w := by
  have hcl : (madeCells #[Value.int .u8 0] n).toList.length = n := by simp [size_madeCells]
  have hlen : (L.map (Value.int .u8)).length = n := by simpa using hL
  refine wpList_copy_splice hgd d s 22 22 ho 5 Yba.underlying22 (by kernel_rfl) _ sp n n n sCap hd hs g 0 (madeCells #[.int .u8 0] n).toList 5 (by simpa using hg) (L.map (Value.int .u8)) (by rw [hlen]; exact (Nat.min_self n).symm) ?_ (by omega) (ints_oneCell .u8 L) g w (Below.refl _ _) (Nat.le_refl _) ?_
  · intro hp
    obtain ⟨ad, hsp, hc⟩ := hsrc (by omega)
    refine ⟨rfl, ad, hsp, fun j v hj => ?_⟩
    have hjl : j < L.length := by
      rcases Nat.lt_or_ge j L.length with h | h
      · exact h
      · simp [List.getElem?_eq_none (show (L.map (Value.int .u8)).length ≤ j by simpa using h)] at hj
    rw [hc j (by omega)]
    simp [List.getElem?_eq_getElem hjl] at hj
    subst hj
    simp [List.getD, List.getElem?_eq_getElem hjl]
  · intro w' hw hb
    rw [hlen]
    refine h w' ?_ hb
    have e : splice (madeCells #[Value.int .u8 0] n).toList 0 (L.map (Value.int .u8)) = L.map (Value.int .u8) := by
      unfold splice
      rw [hlen, List.drop_eq_nil_of_le (by omega)]
      simp
    have hw := hw.out
    rw [e] at hw
    exact hw

set_option maxHeartbeats 400000 in
/-- bytes.Equal, by what its two arguments read as. -/
theorem equal_any (x y : Value) (sx sy : ByteArray) (w : World)
    (hx : (convert 22 9 x).run Yba.prog w = .ok (.string sx) w) (hy : (convert 22 9 y).run Yba.prog w = .ok (.string sy) w) (hxy : sx = sy) :
    Calls Yba.prog 8 #[x, y] w fun e w' => e = .returned (.bool true) ∧ w' = w := by
  subst hxy
  go_enter Yba.func8, Yba.ntmps8
  go_wp2
  go_ret
  exact ⟨rfl, rfl⟩

theorem make_bytes (n : Nat) (hn : n ≤ 1000000) (w : World) :
    (Instr.makeSlice 22 (.int .i64 (n : Int)) (.int .i64 (n : Int))).run Yba.prog w = .ok (.slice (some ⟨w.heap.size, 0, none⟩) n n) (w.alloc (.cells (madeCells #[.int .u8 0] n) 5)) :=
  run_make_row' (P := Yba.prog) 22 5 (.int .u8 0) 1 Yba.underlying22 Yba.info5 rfl .i64 .i64 n (by omega) (by omega) w

end Go.Proofs.Ybulkbwfu
