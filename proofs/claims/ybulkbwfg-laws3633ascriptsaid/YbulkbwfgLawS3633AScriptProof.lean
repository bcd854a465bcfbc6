/-
  'Rows.LawS3633AScriptSaid' PROVED. The frame: the guide's shell, typed for a slice of structs; the walk: YbulkbwfgScriptMain.lean.
-/
import Derived.Test.YbulkbwfgRows
import Derived.WalkKit
import Derived.ProofKit
import Derived.OpenShut
import Derived.ShutString
import Derived.ChangeOld
import Derived.Below
import Derived.Deep.SlicePairs
import Derived.Test.YbulkbwfgScriptMain
namespace Go.Proofs.Ybulkbwfg.lawS3633AScript
open Go.ChangeShapes Go.WideShapes Go.ChangeAt Go.RowKit

theorem own : ownKnob Yba.prog.godebug = none := by kernel_rfl
theorem laidOut : laidOutB Yba.prog = true := by kernel_rfl

/-- What the walk is told of the script that came in. -/
def IsSteps (w : World) (a : Option Addr) (len : Nat) (S : Steps) : Prop :=
  ∃ mb mo, (0 < len → a = some ⟨mb, mo, none⟩) ∧
    (∀ i, i < len → w.cell? ⟨mb, mo + i * 6, none⟩ = some (.int .u8 (S.a i : Int)) ∧ w.cell? ⟨mb, mo + i * 6 + 1, none⟩ = some (.int .u8 (S.s i : Int)) ∧ w.cell? ⟨mb, mo + i * 6 + 2, none⟩ = some (.int .u8 (S.p i : Int)) ∧
      w.cell? ⟨mb, mo + i * 6 + 3, none⟩ = some (.int .i64 (S.seq i)) ∧ w.cell? ⟨mb, mo + i * 6 + 4, none⟩ = some (.int .i8 (S.st i)) ∧ w.cell? ⟨mb, mo + i * 6 + 5, none⟩ = some (.string (S.desc i))) ∧
    ∀ i, i < len → S.a i ≤ 255 ∧ S.s i ≤ 255 ∧ S.p i ≤ 255 ∧ (-9223372036854775808 ≤ S.seq i ∧ S.seq i ≤ 9223372036854775807) ∧ (-128 ≤ S.st i ∧ S.st i ≤ 127)

set_option maxHeartbeats 800000 in
set_option maxRecDepth 100000 in
theorem long (a0 : Option Addr) (n cap : Nat) (w : World) (h : 1024 < n) :
    Calls Yba.prog 3 #[.slice a0 n cap] w fun e w' => e = .returned (.bool true) ∧ Below w.heap.size w w' := by
  have g1 : (1024 : Int) < (n : Int) := by omega
  go_enter Yba.func3, Yba.ntmps3
  go_wp2
  go_ret
  exact ⟨rfl, Below.refl _ _⟩

theorem walk (a0 : Option Addr) (len0 cap0 : Nat) (S : Steps) (w : World) (w0 : IsSteps w a0 len0 S) :
    Calls Yba.prog 3 #[.slice a0 len0 cap0] w fun e w' => e = .returned (.bool true) ∧ Below w.heap.size w w' := by
  by_cases h : 1024 < len0
  · exact long a0 len0 cap0 w h
  · obtain ⟨mb, mo, p1, c1, b1⟩ := w0
    exact script_main a0 len0 cap0 mb mo S w (by omega) p1 c1 b1

/-- What one step's cells hold. -/
def AtStep (w : World) (a : Addr) (i : Nat) (q : Nat × Nat × Nat × Int × Int × ByteArray) : Prop :=
  w.cell? (a.add (i * 6)) = some (.int .u8 q.1) ∧ w.cell? (a.add (i * 6 + 1)) = some (.int .u8 q.2.1) ∧ w.cell? (a.add (i * 6 + 2)) = some (.int .u8 q.2.2.1) ∧ w.cell? (a.add (i * 6 + 3)) = some (.int .i64 q.2.2.2.1) ∧
    w.cell? (a.add (i * 6 + 4)) = some (.int .i8 q.2.2.2.2.1) ∧ w.cell? (a.add (i * 6 + 5)) = some (.string q.2.2.2.2.2) ∧ q.1 ≤ 255 ∧ q.2.1 ≤ 255 ∧ q.2.2.1 ≤ 255 ∧ (-9223372036854775808 ≤ q.2.2.2.1 ∧ q.2.2.2.1 ≤ 9223372036854775807) ∧ (-128 ≤ q.2.2.2.2.1 ∧ q.2.2.2.2.1 ≤ 127)

theorem step_open {H : Type} {enc : TypeId × Value → H} {W : World} {a : Addr} {i n : Nat} {cs : List Value} {x : DataW H × List MemPlace} (h1 : W.cells? 0 (a.add (i * 6)) 6 = some cs) (h2 : DataW.trod enc Yba.prog W 0 (fun _ => true) true n 41 cs = some x) : ∃ q, AtStep W a i q := by
  obtain ⟨_, hlen, hcell⟩ := World.cells?_some h1
  obtain ⟨xs, k, _, _, _, hxl, hf⟩ := DataW.trod_struct Yba.underlying41 h2
  have c5 : Yba.prog.cellsOf 5 = 1 := by kernel_rfl
  have c2 : Yba.prog.cellsOf 2 = 1 := by kernel_rfl
  have c39 : Yba.prog.cellsOf 39 = 1 := by kernel_rfl
  have c9 : Yba.prog.cellsOf 9 = 1 := by kernel_rfl
  match xs, hxl, cs, hlen with
  | [y0, y1, y2, y3, y4, y5], _, [v0, v1, v2, v3, v4, v5], _ =>
    have g0 := hf 0 _ rfl
    have g1 := hf 1 _ rfl
    have g2 := hf 2 _ rfl
    have g3 := hf 3 _ rfl
    have g4 := hf 4 _ rfl
    have g5 := hf 5 _ rfl
    simp [c5, c2, c39, c9] at g0 g1 g2 g3 g4 g5
    obtain ⟨n0, e0, _, b0⟩ := DataW.trod_int Yba.underlying5 g0
    obtain ⟨n1, e1, _, b1⟩ := DataW.trod_int Yba.underlying5 g1
    obtain ⟨n2, e2, _, b2⟩ := DataW.trod_int Yba.underlying5 g2
    obtain ⟨n3, e3, _, b3⟩ := DataW.trod_int Yba.underlying2 g3
    obtain ⟨n4, e4, _, b4⟩ := DataW.trod_int Yba.underlying39 g4
    obtain ⟨s5, e5, _, _⟩ := DataW.trod_string Yba.underlying9 g5
    simp only [List.cons.injEq, and_true] at e0 e1 e2 e3 e4 e5
    subst e0 e1 e2 e3 e4 e5
    have d0 := bounds_u8 b0
    have d1 := bounds_u8 b1
    have d2 := bounds_u8 b2
    have d3 := bounds_i64 b3
    have d4 := bounds_i8 b4
    obtain ⟨m0, rfl⟩ := Int.eq_ofNat_of_zero_le d0.1
    obtain ⟨m1, rfl⟩ := Int.eq_ofNat_of_zero_le d1.1
    obtain ⟨m2, rfl⟩ := Int.eq_ofNat_of_zero_le d2.1
    have f0 := hcell 0 (by omega)
    have f1 := hcell 1 (by omega)
    have f2 := hcell 2 (by omega)
    have f3 := hcell 3 (by omega)
    have f4 := hcell 4 (by omega)
    have f5 := hcell 5 (by omega)
    rw [Deep.add_add] at f0 f1 f2 f3 f4 f5
    rw [Nat.add_zero] at f0
    exact ⟨(m0, m1, m2, n3, n4, s5), f0, f1, f2, f3, f4, f5, by show m0 ≤ 255; omega, by show m1 ≤ 255; omega, by show m2 ≤ 255; omega, d3, d4⟩

theorem steps_open {H : Type} {enc : TypeId × Value → H} {W : World} {a : Option Addr} {len cap : Nat} {d : DataW H} {p : List MemPlace} (h : DataW.Trod enc Yba.prog W 0 (fun _ => true) true 22 (.slice a len cap) d p) : ∃ S, IsSteps W a len S := by
  obtain ⟨fuel, hf⟩ := h
  have c41 : Yba.prog.cellsOf 41 = 6 := by kernel_rfl
  rcases Deep.open_slice Yba.underlying22 hf with ⟨hcs, _⟩ | ⟨x, l, c, m, n, Dd, Pl, hcs, _, hl, hm, hmm, _, hx⟩
  · simp [Value.cells] at hcs
    obtain ⟨rfl, rfl, rfl⟩ := hcs
    exact ⟨⟨fun _ => 0, fun _ => 0, fun _ => 0, fun _ => 0, fun _ => 0, fun _ => ByteArray.empty⟩, 0, 0, fun h => absurd h (by omega), fun i hi => absurd hi (by omega), fun i hi => absurd hi (by omega)⟩
  · simp [Value.cells] at hcs
    obtain ⟨rfl, rfl, rfl⟩ := hcs
    simp only [if_true] at hmm
    subst hmm
    have each : ∀ i, i < len → ∃ q, AtStep W x i q := fun i hi => by
      obtain ⟨cs', h1, h2⟩ := hx i (by omega)
      rw [c41] at h1
      exact step_open h1 h2
    obtain ⟨q, hq⟩ := Deep.choose_lt each
    refine ⟨⟨fun i => (q i).1, fun i => (q i).2.1, fun i => (q i).2.2.1, fun i => (q i).2.2.2.1, fun i => (q i).2.2.2.2.1, fun i => (q i).2.2.2.2.2⟩, ?_⟩
    by_cases h0 : 0 < len
    · obtain ⟨b, off, spot⟩ := x
      have hspot : spot = none := by simpa [Addr.add] using World.cell?_spot (hq 0 h0).1
      subst hspot
      refine ⟨b, off, fun _ => rfl, fun i hi => ?_, fun i hi => (hq i hi).2.2.2.2.2.2⟩
      obtain ⟨f0, f1, f2, f3, f4, f5, _⟩ := hq i hi
      rw [Addr.add_lit] at f0 f1 f2 f3 f4 f5
      rw [← Nat.add_assoc] at f1 f2 f3 f4 f5
      exact ⟨f0, f1, f2, f3, f4, f5⟩
    · exact ⟨0, 0, fun h => absurd h h0, fun i hi => absurd hi (by omega), fun i hi => absurd hi (by omega)⟩

/-! ### THE ROW's STEP -/
set_option maxRecDepth 100000 in
theorem lifted (os : Os) (started : os.Started) (H : Type) (enc : TypeId × Value → H) :
    ReturnsInHanded {} Yba.checked os 3 .any (Rows.lawS3633AScriptSpec.pre6 enc Yba.prog Yba.f3 Rows.lawS3633AScriptRow.domain false) (Rows.lawS3633AScriptSpec.post enc Yba.prog Yba.f3 false true false false) := by
  refine returnsInHanded_of_change (C := Yba.checked) own started (by kernel_rfl) Yba.func3
    (ChangeSpec.witness6 (enc := enc) (C := Yba.checked) false ⟨#[], #[.slice none 0 0], []⟩ 8 (by kernel_rfl) (by kernel_rfl) (by kernel_rfl) (by kernel_rfl)) ?_
  intro W base args ds gs before hval0 hW hcnd _
  have hval : ∀ (j : Nat) t v, Yba.f3.params[j]? = some t → args[j]? = some v → Value.okWide Yba.prog W .any base t v := hval0
  have hW' := hW
  obtain ⟨p, q, hA0, hV, rfl, hfz, hnd⟩ := hW
  have hA : DataW.TrodAll enc Yba.prog W 0 (fun _ => true) true Yba.f3.params.toList args.toList ds p := hA0
  rw [Yba.params3] at hA hval
  obtain ⟨v0, vs0, d0, ds0, p0, q0, hargs, rfl, rfl, h0, r0⟩ := trodAll_cons hA
  obtain ⟨rfl, rfl, rfl⟩ := trodAll_nil r0
  obtain rfl : args = #[v0] := by cases args; simp_all
  obtain ⟨rfl, rfl⟩ := trodVars_none hV
  obtain ⟨a0, len0, cap0, rfl⟩ := okWide_slice Yba.underlying22 (hval 0 22 v0 rfl rfl)
  have k0 := h0
  have lt0 : ∀ x ∈ p0, x.block < W.heap.size := by obtain ⟨m, hm⟩ := k0; exact DataW.trod_lt m _ _ _ hm
  obtain ⟨S, w0⟩ := steps_open h0
  clear hA0 hval0
  refine (walk a0 len0 cap0 S W w0).mono fun e W' ⟨he, bel⟩ => ?_
  subst he
  exact ⟨_, rfl, _, _, _, [], _, [], hW', trodAll_mk1 (shut_bool Yba.underlying4 _), (trodAll_cons_mk (Below.trod laidOut (by kernel_rfl) (of_decide_eq_true (by kernel_rfl)) k0 bel lt0) trodAll_mk0), rfl, bel.frame _, fun h => by cases h⟩

theorem over : Rows.lawS3633AScriptRow.holds Yba.pinned (OpenSpec.ofChange Rows.lawS3633AScriptSpec) :=
  OpenClaim.holds_of_wide 3 Yba.f3 rfl rfl rfl rfl rfl rfl rfl ⟨rfl, rfl, rfl, rfl, rfl⟩ rfl rfl rfl rfl rfl (by kernel_rfl) Yba.func3 (by kernel_rfl)
    (of_decide_eq_true (by kernel_rfl)) (by unfold Func.isWrapper; first | (rw [if_pos (by decide +kernel)]; kernel_rfl) | (rw [if_neg (by decide +kernel)]; exact ⟨rfl, rfl⟩))
    (fun os started H enc _ => lifted os started H enc)

/-- ████ THE STATEMENT ████ -/
theorem proved : Rows.LawS3633AScriptSaid := over
end Go.Proofs.Ybulkbwfg.lawS3633AScript
