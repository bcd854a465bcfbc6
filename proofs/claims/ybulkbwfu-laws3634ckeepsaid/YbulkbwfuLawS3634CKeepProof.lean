/-
  'Rows.LawS3634CKeepSaid' PROVED. The frame: the guide's shell, typed for a []byte, a slice of structs, a bool and two numbers; the walk: YbulkbwfuKeepLaw.lean.
-/
import Derived.Test.YbulkbwfuRows
import Derived.WalkKit
import Derived.ProofKit
import Derived.OpenShut
import Derived.ShutString
import Derived.ChangeOld
import Derived.Below
import Derived.Deep.SlicePairs
import Derived.Test.YbulkbwfuKeepLaw
namespace Go.Proofs.Ybulkbwfu.lawS3634CKeep
open Go.ChangeShapes Go.WideShapes Go.ChangeAt Go.RowKit

theorem own : ownKnob Yba.prog.godebug = none := by kernel_rfl
theorem laidOut : laidOutB Yba.prog = true := by kernel_rfl

/-- What the walk is told of a []byte that came in. -/
def IsBytes (w : World) (a : Option Addr) (len : Nat) (L : List Int) : Prop :=
  L.length = len ∧ (0 < len → ∃ ad, a = some ad ∧ ∀ i, i < len → w.cell? (ad.add i) = some (.int .u8 (L.getD i 0)))

/-- What the walk is told of the messages that came in. -/
def IsMsgs (w : World) (a : Option Addr) (len : Nat) (D : Data) : Prop :=
  ∃ mb mo, (0 < len → a = some ⟨mb, mo, none⟩) ∧
    (∀ i, i < len → w.cell? ⟨mb, mo + i * 6, none⟩ = some (.int .u16 (D.A i)) ∧ w.cell? ⟨mb, mo + i * 6 + 1, none⟩ = some (.int .u16 (D.B i)) ∧ w.cell? ⟨mb, mo + i * 6 + 2, none⟩ = some (.int .i64 (D.seq i)) ∧
      w.cell? ⟨mb, mo + i * 6 + 3, none⟩ = some (.int .i64 (D.ord i)) ∧ w.cell? ⟨mb, mo + i * 6 + 4, none⟩ = some (.string (D.user i)) ∧ w.cell? ⟨mb, mo + i * 6 + 5, none⟩ = some (.bool (D.fin i))) ∧
    ∀ i, i < len → D.A i ≤ 65535 ∧ D.B i ≤ 65535

theorem walk (a0 : Option Addr) (len0 cap0 : Nat) (L : List Int) (a1 : Option Addr) (len1 cap1 : Nat) (D : Data) (cl : Bool) (la fi : Int) (w : World) (w0 : IsBytes w a0 len0 L) (w1 : IsMsgs w a1 len1 D) :
    Calls Yba.prog 5 #[.slice a0 len0 cap0, .slice a1 len1 cap1, .bool cl, .int .i64 la, .int .i64 fi] w fun e w' => e = .returned (.bool true) ∧ Below w.heap.size w w' := by
  by_cases h : 4096 < len0 ∨ 512 < len1
  · exact keep_long a0 len0 cap0 a1 len1 cap1 cl la fi w h
  · obtain ⟨hL, hs⟩ := w0
    obtain ⟨mb, mo, p1, c1, b1⟩ := w1
    exact keep_main a0 len0 cap0 L a1 len1 cap1 mb mo D cl la fi w (by omega) (by omega) hL hs p1 c1 b1

theorem take_getD (zs : List Int) (n i : Nat) (h : i < n) : (zs.take n).getD i 0 = zs.getD i 0 := by
  simp [List.getD, h]

theorem bytes_open {H : Type} {enc : TypeId × Value → H} {W : World} {a : Option Addr} {len cap : Nat} {d : DataW H} {p : List MemPlace} (h : DataW.Trod enc Yba.prog W 0 (fun _ => true) true 22 (.slice a len cap) d p) : ∃ L, IsBytes W a len L := by
  obtain ⟨fuel, hf⟩ := h
  rcases open_ints Yba.underlying22 Yba.underlying5 (by kernel_rfl) hf with ⟨hcs, _⟩ | ⟨x, l, c, zs, hcs, _, hl, hm, hz, _, hcell, hwz⟩
  · simp [Value.cells] at hcs
    obtain ⟨rfl, rfl, rfl⟩ := hcs
    exact ⟨[], rfl, fun h => absurd h (by omega)⟩
  · simp [Value.cells] at hcs
    obtain ⟨rfl, rfl, rfl⟩ := hcs
    have hz' : zs.length = cap := by simpa using hz
    refine ⟨zs.take len, by simp; omega, fun _ => ⟨x, rfl, fun i hi => ?_⟩⟩
    rw [take_getD zs len i hi]
    exact hcell i (by omega)

/-- What one message's cells hold. -/
def AtMsg (w : World) (a : Addr) (i : Nat) (q : Nat × Nat × Int × Int × ByteArray × Bool) : Prop :=
  w.cell? (a.add (i * 6)) = some (.int .u16 q.1) ∧ w.cell? (a.add (i * 6 + 1)) = some (.int .u16 q.2.1) ∧ w.cell? (a.add (i * 6 + 2)) = some (.int .i64 q.2.2.1) ∧ w.cell? (a.add (i * 6 + 3)) = some (.int .i64 q.2.2.2.1) ∧
    w.cell? (a.add (i * 6 + 4)) = some (.string q.2.2.2.2.1) ∧ w.cell? (a.add (i * 6 + 5)) = some (.bool q.2.2.2.2.2) ∧ q.1 ≤ 65535 ∧ q.2.1 ≤ 65535

theorem msg_open {H : Type} {enc : TypeId × Value → H} {W : World} {a : Addr} {i n : Nat} {cs : List Value} {x : DataW H × List MemPlace} (h1 : W.cells? 0 (a.add (i * 6)) 6 = some cs) (h2 : DataW.trod enc Yba.prog W 0 (fun _ => true) true n 46 cs = some x) : ∃ q, AtMsg W a i q := by
  obtain ⟨_, hlen, hcell⟩ := World.cells?_some h1
  obtain ⟨xs, k, _, _, _, hxl, hf⟩ := DataW.trod_struct Yba.underlying46 h2
  have c44 : Yba.prog.cellsOf 44 = 1 := by kernel_rfl
  have c2 : Yba.prog.cellsOf 2 = 1 := by kernel_rfl
  have c3 : Yba.prog.cellsOf 3 = 1 := by kernel_rfl
  have c9 : Yba.prog.cellsOf 9 = 1 := by kernel_rfl
  have c4 : Yba.prog.cellsOf 4 = 1 := by kernel_rfl
  match xs, hxl, cs, hlen with
  | [y0, y1, y2, y3, y4, y5], _, [v0, v1, v2, v3, v4, v5], _ =>
    have g0 := hf 0 _ rfl
    have g1 := hf 1 _ rfl
    have g2 := hf 2 _ rfl
    have g3 := hf 3 _ rfl
    have g4 := hf 4 _ rfl
    have g5 := hf 5 _ rfl
    simp [c44, c2, c3, c9, c4] at g0 g1 g2 g3 g4 g5
    obtain ⟨n0, e0, _, b0⟩ := DataW.trod_int Yba.underlying44 g0
    obtain ⟨n1, e1, _, b1⟩ := DataW.trod_int Yba.underlying44 g1
    obtain ⟨n2, e2, _, _⟩ := DataW.trod_int Yba.underlying2 g2
    obtain ⟨n3, e3, _, _⟩ := DataW.trod_int Yba.underlying3 g3
    obtain ⟨s4, e4, _, _⟩ := DataW.trod_string Yba.underlying9 g4
    obtain ⟨b5, e5, _⟩ := DataW.trod_bool Yba.underlying4 g5
    simp only [List.cons.injEq, and_true] at e0 e1 e2 e3 e4 e5
    subst e0 e1 e2 e3 e4 e5
    have d0 := bounds_u16 b0
    have d1 := bounds_u16 b1
    obtain ⟨m0, rfl⟩ := Int.eq_ofNat_of_zero_le d0.1
    obtain ⟨m1, rfl⟩ := Int.eq_ofNat_of_zero_le d1.1
    have f0 := hcell 0 (by omega)
    have f1 := hcell 1 (by omega)
    have f2 := hcell 2 (by omega)
    have f3 := hcell 3 (by omega)
    have f4 := hcell 4 (by omega)
    have f5 := hcell 5 (by omega)
    rw [Deep.add_add] at f0 f1 f2 f3 f4 f5
    rw [Nat.add_zero] at f0
    exact ⟨(m0, m1, n2, n3, s4, b5), f0, f1, f2, f3, f4, f5, by show m0 ≤ 65535; omega, by show m1 ≤ 65535; omega⟩

theorem msgs_open {H : Type} {enc : TypeId × Value → H} {W : World} {a : Option Addr} {len cap : Nat} {d : DataW H} {p : List MemPlace} (h : DataW.Trod enc Yba.prog W 0 (fun _ => true) true 36 (.slice a len cap) d p) : ∃ D, IsMsgs W a len D := by
  obtain ⟨fuel, hf⟩ := h
  have c46 : Yba.prog.cellsOf 46 = 6 := by kernel_rfl
  rcases Deep.open_slice Yba.underlying36 hf with ⟨hcs, _⟩ | ⟨x, l, c, m, n, Dd, Pl, hcs, _, hl, hm, hmm, _, hx⟩
  · simp [Value.cells] at hcs
    obtain ⟨rfl, rfl, rfl⟩ := hcs
    exact ⟨⟨fun _ => 0, fun _ => 0, fun _ => 0, fun _ => 0, fun _ => ByteArray.empty, fun _ => false⟩, 0, 0, fun h => absurd h (by omega), fun i hi => absurd hi (by omega), fun i hi => absurd hi (by omega)⟩
  · simp [Value.cells] at hcs
    obtain ⟨rfl, rfl, rfl⟩ := hcs
    simp only [if_true] at hmm
    subst hmm
    have each : ∀ i, i < len → ∃ q, AtMsg W x i q := fun i hi => by
      obtain ⟨cs', h1, h2⟩ := hx i (by omega)
      rw [c46] at h1
      exact msg_open h1 h2
    obtain ⟨q, hq⟩ := Deep.choose_lt each
    refine ⟨⟨fun i => (q i).1, fun i => (q i).2.1, fun i => (q i).2.2.1, fun i => (q i).2.2.2.1, fun i => (q i).2.2.2.2.1, fun i => (q i).2.2.2.2.2⟩, ?_⟩
    by_cases h0 : 0 < len
    · obtain ⟨b, off, spot⟩ := x
      have hspot : spot = none := by simpa [Addr.add] using World.cell?_spot (hq 0 h0).1
      subst hspot
      refine ⟨b, off, fun _ => rfl, fun i hi => ?_, fun i hi => (hq i hi).2.2.2.2.2.2⟩
      obtain ⟨f0, f1, f2, f3, f4, f5, _⟩ := hq i hi
      rw [Addr.add_lit] at f0 f1 f2 f3 f4 f5
      rw [← Nat.add_assoc] at f1 f2 f3 f4 f5
      exact ⟨f0, f1, f2, f3, f4, f5⟩
    · exact ⟨0, 0, fun h => absurd h h0, fun i hi => absurd hi (by omega), fun i hi => absurd hi (by omega)⟩

/-! ### THE ROW's STEP -/
set_option maxRecDepth 100000 in
theorem lifted (os : Os) (started : os.Started) (H : Type) (enc : TypeId × Value → H) :
    ReturnsInHanded {} Yba.checked os 5 .any (Rows.lawS3634CKeepSpec.pre6 enc Yba.prog Yba.f5 Rows.lawS3634CKeepRow.domain false) (Rows.lawS3634CKeepSpec.post enc Yba.prog Yba.f5 false true false false) := by
  refine returnsInHanded_of_change (C := Yba.checked) own started (by kernel_rfl) Yba.func5
    (ChangeSpec.witness6 (enc := enc) (C := Yba.checked) false ⟨#[], #[.slice none 0 0, .slice none 0 0, .bool false, .int .i64 0, .int .i64 0], []⟩ 8 (by kernel_rfl) (by kernel_rfl) (by kernel_rfl) (by kernel_rfl)) ?_
  intro W base args ds gs before hval0 hW hcnd _
  have hval : ∀ (j : Nat) t v, Yba.f5.params[j]? = some t → args[j]? = some v → Value.okWide Yba.prog W .any base t v := hval0
  have hW' := hW
  obtain ⟨p, q, hA0, hV, rfl, hfz, hnd⟩ := hW
  have hA : DataW.TrodAll enc Yba.prog W 0 (fun _ => true) true Yba.f5.params.toList args.toList ds p := hA0
  rw [Yba.params5] at hA hval
  obtain ⟨v0, vs0, d0, ds0, p0, q0, hargs, rfl, rfl, h0, r0⟩ := trodAll_cons hA
  obtain ⟨v1, vs1, d1, ds1, p1, q1, rfl, rfl, rfl, h1, r1⟩ := trodAll_cons r0
  obtain ⟨v2, vs2, d2, ds2, p2, q2, rfl, rfl, rfl, h2, r2⟩ := trodAll_cons r1
  obtain ⟨v3, vs3, d3, ds3, p3, q3, rfl, rfl, rfl, h3, r3⟩ := trodAll_cons r2
  obtain ⟨v4, vs4, d4, ds4, p4, q4, rfl, rfl, rfl, h4, r4⟩ := trodAll_cons r3
  obtain ⟨rfl, rfl, rfl⟩ := trodAll_nil r4
  obtain rfl : args = #[v0, v1, v2, v3, v4] := by cases args; simp_all
  obtain ⟨rfl, rfl⟩ := trodVars_none hV
  obtain ⟨a0, len0, cap0, rfl⟩ := okWide_slice Yba.underlying22 (hval 0 22 v0 rfl rfl)
  obtain ⟨a1, len1, cap1, rfl⟩ := okWide_slice Yba.underlying36 (hval 1 36 v1 rfl rfl)
  have k0 := h0
  have lt0 : ∀ x ∈ p0, x.block < W.heap.size := by obtain ⟨m, hm⟩ := k0; exact DataW.trod_lt m _ _ _ hm
  have k1 := h1
  have lt1 : ∀ x ∈ p1, x.block < W.heap.size := by obtain ⟨m, hm⟩ := k1; exact DataW.trod_lt m _ _ _ hm
  obtain ⟨L, w0⟩ := bytes_open h0
  obtain ⟨D, w1⟩ := msgs_open h1
  obtain ⟨cl, rfl, rfl, rfl⟩ := open_bool Yba.underlying4 (hval 2 4 v2 rfl rfl) h2
  obtain ⟨la, rfl, rfl, rfl, w3⟩ := open_int Yba.underlying3 (hval 3 3 v3 rfl rfl) h3
  obtain ⟨fi, rfl, rfl, rfl, w4⟩ := open_int Yba.underlying3 (hval 4 3 v4 rfl rfl) h4
  clear hA0 hval0
  refine (walk a0 len0 cap0 L a1 len1 cap1 D cl la fi W w0 w1).mono fun e W' ⟨he, bel⟩ => ?_
  subst he
  exact ⟨_, rfl, _, _, _, [], _, [], hW', trodAll_mk1 (shut_bool Yba.underlying4 _), (trodAll_cons_mk (Below.trod laidOut (by kernel_rfl) (of_decide_eq_true (by kernel_rfl)) k0 bel lt0) (trodAll_cons_mk (Below.trod laidOut (by kernel_rfl) (of_decide_eq_true (by kernel_rfl)) k1 bel lt1) (trodAll_cons_mk (shut_bool Yba.underlying4 _) (trodAll_cons_mk (shut_int Yba.underlying3 w3) (trodAll_cons_mk (shut_int Yba.underlying3 w4) trodAll_mk0))))), rfl, bel.frame _, fun h => by cases h⟩

theorem over : Rows.lawS3634CKeepRow.holds Yba.pinned (OpenSpec.ofChange Rows.lawS3634CKeepSpec) :=
  OpenClaim.holds_of_wide 5 Yba.f5 rfl rfl rfl rfl rfl rfl rfl ⟨rfl, rfl, rfl, rfl, rfl⟩ rfl rfl rfl rfl rfl (by kernel_rfl) Yba.func5 (by kernel_rfl)
    (of_decide_eq_true (by kernel_rfl)) (by unfold Func.isWrapper; first | (rw [if_pos (by decide +kernel)]; kernel_rfl) | (rw [if_neg (by decide +kernel)]; exact ⟨rfl, rfl⟩))
    (fun os started H enc _ => lifted os started H enc)

/-- ████ THE STATEMENT ████ -/
theorem proved : Rows.LawS3634CKeepSaid := over
end Go.Proofs.Ybulkbwfu.lawS3634CKeep
