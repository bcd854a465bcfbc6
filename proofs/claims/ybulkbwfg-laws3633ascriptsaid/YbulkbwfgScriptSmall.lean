/-
  LawS3633AScript: the small functions on her road.
-/
import Derived.Test.YbulkbwfgScriptTable
import Derived.Handy
import Derived.Below
import Derived.OwnWalk
import Derived.Deep.OwnRows
import Derived.Deep.LoopGhost
import Derived.Deep.QuietTactic
import Derived.BigQuiet
namespace Go.Proofs.Ybulkbwfg
open Go.RowKit Go.Proofs

/-- A fact that the walk must not see. -/
def Hid (p : Prop) : Prop := p
theorem Hid.out {p : Prop} (h : Hid p) : p := h

theorem src_any (i : Nat) (hi : i < 5) (w : World) : Calls Yba.prog 9 #[.int .i64 (i : Int)] w fun e w' => e = .returned (.string (srcB i)) ∧ w' = w := by
  revert i
  refine lt5 ?_ ?_ ?_ ?_ ?_ <;> (go_enter Yba.func9, Yba.ntmps9; go_wp2; go_ret; exact ⟨rfl, rfl⟩)
theorem prop_any (i : Nat) (hi : i < 2) (w : World) : Calls Yba.prog 10 #[.int .i64 (i : Int)] w fun e w' => e = .returned (.string (propB i)) ∧ w' = w := by
  revert i
  refine lt2 ?_ ?_ <;> (go_enter Yba.func10, Yba.ntmps10; go_wp2; go_ret; exact ⟨rfl, rfl⟩)
def resB (i : Nat) : Bool := i == 1 || i == 3
theorem res_any (i : Nat) (hi : i < 5) (w : World) : Calls Yba.prog 12 #[.int .i64 (i : Int)] w fun e w' => e = .returned (.bool (resB i)) ∧ w' = w := by
  revert i
  refine lt5 ?_ ?_ ?_ ?_ ?_ <;> (go_enter Yba.func12, Yba.ntmps12; go_wp2; go_ret; exact ⟨rfl, rfl⟩)
theorem ref_any (i : Nat) (hi : i < 4) (w : World) : Calls Yba.prog 8 #[.int .i64 (i : Int)] w fun e w' => e = .returned (refV i) ∧ Below w.heap.size w w' := by
  revert i
  refine lt4 ?_ ?_ ?_ ?_ <;> (go_enter Yba.func8, Yba.ntmps8; go_wp2; go_returns; exact ⟨rfl, (Below.refl _ _).alloc (Nat.le_refl _) _⟩)
theorem pre_any (i : Nat) (hi : i < 5) (w : World) : Calls Yba.prog 16 #[.string (srcB i), .string { data := #[83, 121, 115, 116, 101, 109, 46] }] w fun e w' => e = .returned (.bool (resB i)) ∧ w' = w := by
  revert i
  refine lt5 ?_ ?_ ?_ ?_ ?_ <;> (unfold srcB; go_enter Yba.func16, Yba.ntmps16; go_wp2; go_ret; first | exact ⟨rfl, rfl⟩ | exact ⟨by kernel_rfl, rfl⟩)

/-- The row of the table, as the walk reads it. -/
def OwnAt (w : World) (ao : Option Addr) (T : List Ent) : Prop :=
  0 < T.length → ∃ g, ao = some ⟨g, 0, none⟩ ∧ ∀ i x, T[i]? = some x → w.cell? ⟨g, i * 6, none⟩ = some (.int .i64 (x.e : Int)) ∧ w.cell? ⟨g, i * 6 + 1, none⟩ = some (.int .i64 (x.s : Int)) ∧ w.cell? ⟨g, i * 6 + 2, none⟩ = some (.int .i64 (x.p : Int)) ∧
    w.cell? ⟨g, i * 6 + 3, none⟩ = some (.int .i64 x.seq) ∧ w.cell? ⟨g, i * 6 + 4, none⟩ = some (.int .i64 x.st) ∧ w.cell? ⟨g, i * 6 + 5, none⟩ = some (.string x.desc)

def fndI (e s p : Nat) (T : List Ent) : Int := match fnd e s p T with
  | some k => (k : Int)
  | none => -1
def Miss (e s p : Nat) (T : List Ent) (j : Nat) : Prop := fnd e s p T = (fnd e s p (T.drop j)).map (· + j)
theorem miss_zero (e s p : Nat) (T : List Ent) : Miss e s p T 0 := by
  unfold Miss
  rw [List.drop_zero]
  cases fnd e s p T <;> rfl
theorem miss_step {e s p j : Nat} {T : List Ent} {x : Ent} (h : Miss e s p T j) (hx : T[j]? = some x) (hn : ¬ (x.e = e ∧ x.s = s ∧ x.p = p)) : Miss e s p T (j + 1) := by
  unfold Miss at h ⊢
  obtain ⟨hj, hxe⟩ := List.getElem?_eq_some_iff.1 hx
  rw [h, List.drop_eq_getElem_cons hj, hxe]
  have hh : ¬ (x.hit e s p = true) := by
    unfold Ent.hit
    simp
    intro h1 h2 h3
    exact hn ⟨h1, h2, h3⟩
  show Option.map _ (if x.hit e s p then some 0 else (fnd e s p (T.drop (j + 1))).map (· + 1)) = _
  rw [if_neg hh]
  cases fnd e s p (T.drop (j + 1)) with
  | none => rfl
  | some k => simp; omega
theorem miss_hit {e s p j : Nat} {T : List Ent} {x : Ent} (h : Miss e s p T j) (hx : T[j]? = some x) (h1 : x.e = e) (h2 : x.s = s) (h3 : x.p = p) : fndI e s p T = (j : Int) := by
  unfold Miss at h
  obtain ⟨hj, hxe⟩ := List.getElem?_eq_some_iff.1 hx
  have hh : x.hit e s p = true := by
    unfold Ent.hit
    simp [h1, h2, h3]
  rw [List.drop_eq_getElem_cons hj, hxe] at h
  have hf : fnd e s p (x :: T.drop (j + 1)) = some 0 := by
    unfold fnd
    rw [if_pos hh]
  rw [hf] at h
  unfold fndI
  rw [h]
  simp
theorem miss_end {e s p : Nat} {T : List Ent} (h : Miss e s p T T.length) : fndI e s p T = -1 := by
  unfold Miss at h
  rw [List.drop_length] at h
  unfold fndI
  rw [h]
  rfl

set_option maxHeartbeats 800000 in
theorem find_any (e s p n : Nat) (T : List Ent) (ao : Option Addr) (cp : Nat) (w : World) (hn : T.length = n) (hb : n ≤ 1024) (hO : OwnAt w ao T) :
    Calls Yba.prog 11 #[.slice ao n cp, .int .i64 (e : Int), .int .i64 (s : Int), .int .i64 (p : Int)] w fun ex w' => ex = .returned (.int .i64 (fndI e s p T)) ∧ w' = w := by
  have HO : Hid (OwnAt w ao T) := hO
  clear hO
  go_enter Yba.func11, Yba.ntmps11
  go_wp2
  go_loopg [9] n (fun g i wx => ∃ j : Nat, j ≤ n ∧ g = n - j ∧ i = .int .i64 (j : Int) ∧ Hid (Miss e s p T j) ∧ wx = w)
  case atStart => exact ⟨0, Nat.zero_le _, rfl, rfl, miss_zero _ _ _ _, rfl⟩
  case round =>
    obtain ⟨j, hj, rfl, rfl, hM, rfl⟩ := hrel
    by_cases hlt : j < n
    · obtain ⟨g, rfl, hc⟩ := HO.out (by omega)
      obtain ⟨x, hx⟩ : ∃ x, T[j]? = some x := ⟨_, List.getElem?_eq_getElem (by omega)⟩
      obtain ⟨c0, c1, c2, _, _, _⟩ := hc j x hx
      clear hc
      have HX : Hid (T[j]? = some x) := hx
      clear hx
      by_cases h1 : x.e = e
      · by_cases h2 : x.s = s
        · by_cases h3 : x.p = p
          · have HR : Hid (fndI e s p T = (j : Int)) := miss_hit hM.out HX.out h1 h2 h3
            rw [h1] at c0
            rw [h2] at c1
            rw [h3] at c2
            go_wp2
            go_ret
            exact ⟨by rw [HR.out]; rfl, rfl⟩
          · have hM' := miss_step hM.out HX.out (fun h => h3 h.2.2)
            have a3 : ¬ ((x.p : Int) = (p : Int)) := by omega
            rw [h1] at c0
            rw [h2] at c1
            go_wp2
            go_roundg (n - (j + 1))
            case measure => omega
            case rel => exact ⟨j + 1, by omega, rfl, by go_num, hM', rfl⟩
        · have hM' := miss_step hM.out HX.out (fun h => h2 h.2.1)
          have a2 : ¬ ((x.s : Int) = (s : Int)) := by omega
          rw [h1] at c0
          go_wp2
          go_roundg (n - (j + 1))
          case measure => omega
          case rel => exact ⟨j + 1, by omega, rfl, by go_num, hM', rfl⟩
      · have hM' := miss_step hM.out HX.out (fun h => h1 h.1)
        have a1 : ¬ ((x.e : Int) = (e : Int)) := by omega
        go_wp2
        go_roundg (n - (j + 1))
        case measure => omega
        case rel => exact ⟨j + 1, by omega, rfl, by go_num, hM', rfl⟩
    · have hjn : j = n := by omega
      subst hjn
      have HR : Hid (fndI e s p T = -1) := miss_end (by rw [hn]; exact hM.out)
      go_wp2
      go_ret
      exact ⟨by rw [HR.out]; rfl, rfl⟩
end Go.Proofs.Ybulkbwfg
