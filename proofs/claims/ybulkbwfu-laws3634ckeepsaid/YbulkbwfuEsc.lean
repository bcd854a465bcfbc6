/-
  JSON escaping, byte by byte: the plain functions, and an append of known bytes to a row that the call owns.
-/
import Derived.Test.YbulkbwfuProg
import Derived.WalkKit
import Derived.WalkSpells
import Derived.WalkLawsBesides
import Derived.Deep.LoopGhost
import Derived.Deep.DeepCutAuto
import Derived.Deep.Light
import Derived.Deep.AppendLies
import Derived.Deep.RegionLaw
import Derived.Lib.AppendStr
import Derived.Laws.CopyOwn
namespace Go.Proofs.Ybulkbwfu
open Go.RowKit Go.Proofs

theorem Yba.info5 : (Yba.prog.info? 5).map (fun i => (i.zero, i.size, i.bytes)) = some (some (.int .u8 0), 1, 1) := by kernel_rfl

/-- The hexadecimal digit of a number below 16, as a byte. -/
def hexN (n : Nat) : Nat := if n < 10 then 48 + n else 87 + n
theorem hex_at (i : Int) (k : Nat) (hi : i = (k : Int)) (hk : k < 16) (h : i.toNat < ({ data := #[48, 49, 50, 51, 52, 53, 54, 55, 56, 57, 97, 98, 99, 100, 101, 102] } : ByteArray).size) :
    (({ data := #[48, 49, 50, 51, 52, 53, 54, 55, 56, 57, 97, 98, 99, 100, 101, 102] } : ByteArray)[i.toNat]'h).toNat = hexN k := by
  subst hi
  have key : ∀ k : Fin 16, (({ data := #[48, 49, 50, 51, 52, 53, 54, 55, 56, 57, 97, 98, 99, 100, 101, 102] } : ByteArray)[k.val]'(k.isLt)).toNat = hexN k.val := by decide
  exact key ⟨k, hk⟩
/-- What one byte becomes. -/
def escN (n : Nat) : List Nat :=
  if n = 34 then [92, 34] else if n = 92 then [92, 92] else if n = 8 then [92, 98] else if n = 12 then [92, 102] else if n = 10 then [92, 110]
  else if n = 13 then [92, 114] else if n = 9 then [92, 116] else if n < 32 then [92, 117, 48, 48, hexN (n / 16), hexN (n % 16)] else [n]
def cellsN (l : List Nat) : List Value := l.map fun (n : Nat) => Value.int .u8 (n : Int)
/-- The first k bytes of s, escaped, as cells. -/
def escAll (s : ByteArray) (k : Nat) : List Value := (s.data.toList.take k).flatMap fun b => cellsN (escN b.toNat)

theorem escN_length (n : Nat) : (escN n).length ≤ 6 := by
  unfold escN
  repeat' split
  all_goals simp
theorem cellsN_length (l : List Nat) : (cellsN l).length = l.length := by simp [cellsN]
theorem cellsN_append (a b : List Nat) : cellsN (a ++ b) = cellsN a ++ cellsN b := by simp [cellsN]
theorem cellsN_oneCell (l : List Nat) : ∀ u ∈ cellsN l, u.oneCell' = true := by
  intro u hu
  obtain ⟨_, _, rfl⟩ := List.mem_map.1 hu
  rfl

theorem escAll_zero (s : ByteArray) : escAll s 0 = [] := by simp [escAll]
theorem escAll_succ (s : ByteArray) (k : Nat) (h : k < s.size) : escAll s (k + 1) = escAll s k ++ cellsN (escN s[k].toNat) := by
  unfold escAll
  rw [List.take_succ_eq_append_getElem (by simpa using h), List.flatMap_append]
  simp
  rfl
theorem escAll_length (s : ByteArray) : ∀ k, k ≤ s.size → (escAll s k).length ≤ 6 * k
  | 0, _ => by simp [escAll]
  | k + 1, h => by
    have := escAll_length s k (by omega)
    have := escN_length s[k].toNat
    rw [escAll_succ s k (by omega), List.length_append, cellsN_length]
    omega

/-- A byte that is written as itself. -/
def plainN (n : Nat) : Prop := 32 ≤ n ∧ n ≠ 34 ∧ n ≠ 92
theorem escN_plain {n : Nat} (h : plainN n) : escN n = [n] := by
  obtain ⟨h1, h2, h3⟩ := h
  unfold escN
  rw [if_neg h2, if_neg h3, if_neg (by omega), if_neg (by omega), if_neg (by omega), if_neg (by omega), if_neg (by omega), if_neg (by omega)]

theorem ownsRow_base {w : World} {B B' : Nat} {e : TypeId} {size : Nat} {v : Value} {n : Nat} {xs : List Value} (h : w.ownsRow B e size v n xs) (hB : B' ≤ B) : w.ownsRow B' e size v n xs := by
  refine ⟨h.1, ?_⟩
  rcases h.2 with h2 | ⟨g, cap, cur, hv, hg, hh, r⟩
  · exact Or.inl h2
  · exact Or.inr ⟨g, cap, cur, hv, Nat.le_trans hB hg, hh, r⟩

theorem ownsRow_len {w : World} {B : Nat} {e : TypeId} {v : Value} {n : Nat} {xs : List Value} (h : w.ownsRow B e 1 v n xs) : xs.length = n := by simpa using h.1

/-- 'append(b, x...)', b a row of bytes that the call owns, x a slice over a block that is known whole. -/
theorem app_own {ops : Array Oper} {rest : List Oper} {o : Oper} {a : Act} {Q : Exit → Act → World → Prop} (w : World) (hgd : o.guard = none) (s x : Operand)
    (ho : o.op = .call { callee := .builtin .append, args := #[s, x], argTypes := #[22, 22] })
    (B : Nat) (v : Value) (m : Nat) (xs : List Value) (hs : a.eval s = v) (hown : w.ownsRow B 5 1 v m xs)
    (bs : List Nat) (b k : Nat) (hx : a.eval x = .slice (some ⟨b, 0, none⟩) k k) (hk : bs.length = k) (hb : w.heap[b]? = some (.cells (cellsN bs).toArray 5 (0, 0)))
    (hm : m + k ≤ 1000000) (hbase : B ≤ w.heap.size)
    (h : ∀ v' w', w'.ownsRow B 5 1 v' (m + k) (xs ++ cellsN bs) → w.grownBy w' v.ownBlock → wpList Yba.prog ops Q rest (a.put o.dst v') w') : wpList Yba.prog ops Q (o :: rest) a w := by
  obtain ⟨i0, hi, hz0, hz1, hz2⟩ := info_parts Yba.info5
  refine wpList_append_own w hgd s x 22 ho B 5 i0 (.int .u8 0) 1 1 Yba.underlying22 hi hz0 hz1 hz2 rfl (by decide) v m xs hs hown ⟨b, 0, none⟩ k k (cellsN bs) hx (by rw [cellsN_length, hk]; simp) ?_ (cellsN_oneCell bs) (by unfold maxLen; omega) (by omega) hbase ?_
  · have := World.news_of_block hb
    simpa using this
  · intro v' w' h1 h2 _
    exact h v' w' h1 h2

/-- The same as one step of a region that draws its order. -/
theorem step_own {ops : Array Oper} {o : Oper} {a : Act} {K : Act → World → Prop} {Q : Exit → Act → World → Prop} {E : Prop} (w : World) (hgd : o.guard = none) (s x : Operand)
    (ho : o.op = .call { callee := .builtin .append, args := #[s, x], argTypes := #[22, 22] })
    (B : Nat) (v : Value) (m : Nat) (xs : List Value) (hs : a.eval s = v) (hown : w.ownsRow B 5 1 v m xs)
    (bs : List Nat) (b k : Nat) (hx : a.eval x = .slice (some ⟨b, 0, none⟩) k k) (hk : bs.length = k) (hk0 : 0 < k) (hb : w.heap[b]? = some (.cells (cellsN bs).toArray 5 (0, 0)))
    (hm : m + k ≤ 1000000) (hbase : B ≤ w.heap.size)
    (h : ∀ g cap w', w'.ownsRow B 5 1 (.slice (some ⟨g, 0, none⟩) (m + k) cap) (m + k) (xs ++ cellsN bs) → w.grownBy w' v.ownBlock → K (a.put o.dst (.slice (some ⟨g, 0, none⟩) (m + k) cap)) w') :
    if Region.wanted o (yielded ops a.tmps) = true then Oper.wp Yba.prog o a w K Q else E := by
  obtain ⟨i0, hi, hz0, hz1, hz2⟩ := info_parts Yba.info5
  refine step_append_lies w hgd s x 22 ho B 5 i0 (.int .u8 0) 1 1 Yba.underlying22 hi hz0 hz1 hz2 rfl (by decide) v m xs hs hown ⟨b, 0, none⟩ k k (cellsN bs) hx (by rw [cellsN_length, hk]; simp) ?_ (cellsN_oneCell bs) hk0 (by unfold maxLen; omega) (by omega) hbase w.heap.size rfl ?_
  · have := World.news_of_block hb
    simpa using this
  · intro g cap w' h1 h2 _ _
    exact h g cap w' h1 h2

/-- 'append(b, s...)', s a string. -/
theorem app_str {ops : Array Oper} {rest : List Oper} {o : Oper} {a : Act} {Q : Exit → Act → World → Prop} (w : World) (hgd : o.guard = none) (sl x : Operand)
    (ho : o.op = .call { callee := .builtin .append, args := #[sl, x], argTypes := #[22, 9] })
    (B : Nat) (v : Value) (m : Nat) (xs : List Value) (hs : a.eval sl = v) (hown : w.ownsRow B 5 1 v m xs) (s : ByteArray) (hx : a.eval x = .string s)
    (hm : m + s.size ≤ 1000000) (hbase : B ≤ w.heap.size)
    (h : ∀ v' w', w'.ownsRow B 5 1 v' (m + s.size) (xs ++ Lib.strCells s) → w.grownBy w' v.ownBlock → wpList Yba.prog ops Q rest (a.put o.dst v') w') : wpList Yba.prog ops Q (o :: rest) a w := by
  obtain ⟨i0, hi, hz0, hz1, hz2⟩ := info_parts Yba.info5
  refine Lib.wpList_append_own_string w hgd sl x 22 9 ho B 5 i0 Yba.underlying22 Yba.underlying9 hi hz0 hz1 hz2 v m xs hs hown s hx (by unfold maxLen; omega) (by omega) hbase ?_
  intro v' w' h1 h2 _
  exact h v' w' h1 h2

/-- The first append, onto a full slice of the caller's: it grows, and the old row is left alone. -/
theorem app_full {ops : Array Oper} {rest : List Oper} {o : Oper} {a : Act} {Q : Exit → Act → World → Prop} (w : World) (hgd : o.guard = none) (s x : Operand)
    (ho : o.op = .call { callee := .builtin .append, args := #[s, x], argTypes := #[22, 22] })
    (g n : Nat) (xs : List Value) (hs : a.eval s = .slice (some ⟨g, 0, none⟩) n n) (hxl : xs.length = n) (hc : ∀ j u, xs[j]? = some u → w.cell? ⟨g, j, none⟩ = some u)
    (bs : List Nat) (b k : Nat) (hx : a.eval x = .slice (some ⟨b, 0, none⟩) k k) (hk : bs.length = k) (hk0 : 0 < k) (hb : w.heap[b]? = some (.cells (cellsN bs).toArray 5 (0, 0)))
    (hm : n + k ≤ 1000000)
    (h : ∀ v' w', w'.ownsRow w.heap.size 5 1 v' (n + k) (xs ++ cellsN bs) → w.grownBy w' none → wpList Yba.prog ops Q rest (a.put o.dst v') w') : wpList Yba.prog ops Q (o :: rest) a w := by
  obtain ⟨i0, hi, hz0, hz1, hz2⟩ := info_parts Yba.info5
  refine wpList_append_grows w hgd s x 22 ho 5 i0 (.int .u8 0) 1 1 Yba.underlying22 hi hz0 hz1 hz2 rfl (by decide) (some ⟨g, 0, none⟩) n n xs hs (by intro e; cases e) (by simpa using hxl) ?_ ⟨b, 0, none⟩ k k (cellsN bs) hx (by rw [cellsN_length, hk]; simp) ?_ (cellsN_oneCell bs) (by omega) (by unfold maxLen; omega) (by omega) ?_
  · intro ad e j u hj
    cases e
    rw [Addr.add_lit]
    simpa using hc j u hj
  · have := World.news_of_block hb
    simpa using this
  · intro v' w' h1 h2
    exact h v' w' h1 h2

/-- What one round of escaping does to what is owned. -/
theorem esc_step {B : Nat} {w wr wx w1 : World} {v v1 : Value} {m j : Nat} {pre : List Value} {s : ByteArray} {bs : List Nat} (hj : j < s.size) (he : escN s[j].toNat = bs)
    (hown : wr.ownsRow B 5 1 v m (pre ++ escAll s j)) (hx : Below B w wx) (hBw : B ≤ w.heap.size)
    (hown1 : w1.ownsRow B 5 1 v1 (m + bs.length) ((pre ++ escAll s j) ++ cellsN bs)) (hgrow : wx.grownBy w1 v.ownBlock) :
    ∃ m', w1.ownsRow B 5 1 v1 m' (pre ++ escAll s (j + 1)) ∧ Below B w w1 := by
  refine ⟨m + bs.length, ?_, hx.grown hgrow (Nat.le_trans hBw hx.size) fun k hk => (hown.lt k hk).1⟩
  rw [escAll_succ s j hj, he, ← List.append_assoc]
  exact hown1

/-- 'append(b, "..."...)', a constant. -/
theorem app_const {ops : Array Oper} {rest : List Oper} {o : Oper} {a : Act} {Q : Exit → Act → World → Prop} (w : World) (hgd : o.guard = none) (sl x : Operand)
    (ho : o.op = .call { callee := .builtin .append, args := #[sl, x], argTypes := #[22, 9] })
    (B : Nat) (v : Value) (m : Nat) (xs : List Value) (hs : a.eval sl = v) (hown : w.ownsRow B 5 1 v m xs) (s : ByteArray) (hx : a.eval x = .string s)
    (bs : List Nat) (hbs : Lib.strCells s = cellsN bs) (hm : m + bs.length ≤ 1000000) (hbase : B ≤ w.heap.size)
    (h : ∀ v' w', w'.ownsRow B 5 1 v' (m + bs.length) (xs ++ cellsN bs) → w.grownBy w' v.ownBlock → wpList Yba.prog ops Q rest (a.put o.dst v') w') : wpList Yba.prog ops Q (o :: rest) a w := by
  have hl : s.size = bs.length := by rw [← Lib.strCells_length, hbs, cellsN_length]
  refine app_str w hgd sl x ho B v m xs hs hown s hx (by omega) hbase ?_
  rw [hl, hbs]
  exact h

theorem strCells_extract_succ (s : ByteArray) (d i : Nat) (hd : d ≤ i) (hi : i < s.size) : Lib.strCells (s.extract d (i + 1)) = Lib.strCells (s.extract d i) ++ cellsN [s[i].toNat] := by
  unfold Lib.strCells
  have e1 : ∀ b, (s.extract d b).data.toList = (s.data.toList.take b).drop d := by
    intro b
    simp [ByteArray.data_extract, Array.toList_extract, List.drop_take]
  rw [e1, e1, List.take_succ_eq_append_getElem (by simpa using hi), List.drop_append_of_le_length (by simp; omega), List.map_append]
  simp [cellsN]
  rfl

/-- A stretch of bytes that are written as themselves. -/
theorem escAll_seg (s : ByteArray) (d : Nat) : ∀ i, d ≤ i → (hi : i ≤ s.size) → (∀ t, d ≤ t → (ht : t < i) → plainN (s[t]'(by omega)).toNat) → escAll s i = escAll s d ++ Lib.strCells (s.extract d i)
  | 0, h, _, _ => by
    obtain rfl : d = 0 := by omega
    simp [Lib.strCells, escAll]
  | i + 1, h, hi, hp => by
    by_cases e : d = i + 1
    · subst e
      simp [Lib.strCells]
    · have ih := escAll_seg s d i (by omega) (by omega) (fun t h1 h2 => hp t h1 (by omega))
      rw [escAll_succ s i (by omega), escN_plain (hp i (by omega) (by omega)), ih, strCells_extract_succ s d i (by omega) (by omega), List.append_assoc]

/-- The stretch s[d:j] is appended. -/
theorem esc_mid {B : Nat} {w wr w1 : World} {v v1 : Value} {m d j : Nat} {pre : List Value} {s : ByteArray} (hj : j ≤ s.size) (hd : d ≤ j)
    (hp : ∀ t, d ≤ t → (ht : t < j) → plainN (s[t]'(by omega)).toNat)
    (hown : wr.ownsRow B 5 1 v m (pre ++ escAll s d)) (hx : Below B w wr) (hBw : B ≤ w.heap.size) (hpl : pre.length ≤ 4097) (hs : s.size ≤ 4096)
    (hown1 : w1.ownsRow B 5 1 v1 (m + (s.extract d j).size) ((pre ++ escAll s d) ++ Lib.strCells (s.extract d j))) (hgrow : wr.grownBy w1 v.ownBlock) :
    ∃ m', w1.ownsRow B 5 1 v1 m' (pre ++ escAll s j) ∧ Below B w w1 ∧ m' ≤ 40000 ∧ B ≤ w1.heap.size := by
  have hb := hx.grown hgrow (Nat.le_trans hBw hx.size) fun k hk => (hown.lt k hk).1
  have ho : w1.ownsRow B 5 1 v1 (m + (s.extract d j).size) (pre ++ escAll s j) := by
    rw [escAll_seg s d j hd hj hp, ← List.append_assoc]
    exact hown1
  refine ⟨_, ho, hb, ?_, Nat.le_trans hBw hb.size⟩
  have h1 := ownsRow_len ho
  have h2 := escAll_length s j hj
  rw [List.length_append] at h1
  omega

end Go.Proofs.Ybulkbwfu
