/-
  LawS3633AScript: '(*Model).Apply' (function 13).
-/
import Derived.Test.YbulkbwfgScriptOwn
namespace Go.Proofs.Ybulkbwfg
open Go.RowKit Go.Proofs

def reserved : ByteArray := { data := #[114, 101, 115, 101, 114, 118, 101, 100, 45, 115, 111, 117, 114, 99, 101] }
/-- What 'Apply' answers. -/
def outB (e s : Nat) (o : Option Int) : ByteArray := if resB s = true then reserved else if e = 3 then unknown else match o with
  | some _ => { data := #[] }
  | none => stale
/-- The table behind it. -/
def nextT (e s p : Nat) (st : Int) (desc : ByteArray) (o : Option Int) (T : List Ent) : List Ent := if resB s = true then T else if e = 3 then T else match o with
  | some q => putE ⟨e, s, p, q, st, desc⟩ T
  | none => T
def ApplyPost (w wr : World) (Mo B : Nat) (E : Nat → Nat) (v : Value) (T : List Ent) (e s p : Nat) (st : Int) (desc : ByteArray) (o : Option Int) (ex : Ending) (w' : World) : Prop :=
  Old wr w' ∧ wr.heap.size ≤ w'.heap.size ∧ ex = .returned (.string (outB e s o)) ∧ ∃ mo', Inv w w' Mo B 3 E v mo' (nextT e s p st desc o T)

section
set_option maxHeartbeats 8000000
set_option maxRecDepth 100000

theorem apply_any (w wr : World) (Mo B : Nat) (E : Nat → Nat) (v : Value) (mo : Nat → Option Nat) (T : List Ent) (e s p : Nat) (st : Int) (desc : ByteArray) (seq : Int) (he : e < 4) (hs : s < 5) (hp : p < 2) (hsb : -9223372036854775808 ≤ seq ∧ seq ≤ 9223372036854775807) (hI : Inv w wr Mo B 3 E v mo T) :
    Calls Yba.prog 13 #[.pointer (some ⟨Mo, 0, none⟩), .agg (repA e s p st desc seq)] wr fun ex w' => ApplyPost w wr Mo B E v T e s p st desc (newSeq (seqOf (look e s p T)) seq) ex w' := by
  have hbd : Below wr.heap.size wr (wr.alloc (.cells (repA e s p st desc seq) 49)) := (Below.refl _ _).alloc (Nat.le_refl _) _
  have hown : ¬ resB s = true → ∀ W, Below wr.heap.size wr W → Calls Yba.prog 17 #[.pointer (some ⟨Mo, 0, none⟩), .agg (repA e s p st desc seq)] W fun ex w' => ApplyPost w wr Mo B E v T e s p st desc (newSeq (seqOf (look e s p T)) seq) ex w' := by
    intro hr W hb
    by_cases h3 : e = 3
    · subst h3
      refine (own_unknown w W Mo B E v mo T s p st desc seq (hI.later hb)).mono ?_
      rintro ex w' ⟨rfl, hb'⟩
      have hb2 := hb.trans (hb'.mono hb.size)
      refine ⟨Old.of_below hb2, hb2.size, ?_, mo, ?_⟩
      · unfold outB
        rw [if_neg hr, if_pos rfl]
      · unfold nextT
        rw [if_neg hr, if_pos rfl]
        exact hI.later hb2
    · refine (own_known w W Mo B E v mo T e s p st desc seq (by omega) hs hp hsb (hI.later hb)).mono ?_
      rintro ex w' ⟨h1, h2, h4⟩
      unfold ApplyPost outB nextT
      rw [if_neg hr, if_neg hr, if_neg h3, if_neg h3]
      refine ⟨(Old.of_below hb).trans h1, Nat.le_trans hb.size h2, ?_⟩
      cases hq : newSeq (seqOf (look e s p T)) seq with
      | none => rw [hq] at h4; exact ⟨h4.1, mo, h4.2⟩
      | some q => rw [hq] at h4; exact h4
  have hcs : Hid ((repA e s p st desc seq).size = 18) := repA_size _ _ _ _ _ _
  have h8 : (repA e s p st desc seq)[8]? = some (.string (srcB s)) := rfl
  generalize repA e s p st desc seq = c at hbd hown hcs h8 ⊢
  have hpre := pre_any s hs
  have hk := heap_alloc_new wr (.cells c 49)
  have k8 : (wr.alloc (.cells c 49)).cell? ⟨wr.heap.size, 8, none⟩ = some (.string (srcB s)) := by unfold World.cell?; rw [hk]; exact h8
  clear hk
  go_enter Yba.func13, Yba.ntmps13
  cases hr : resB s with
  | true =>
    rw [hr] at hpre
    go_wp2_with (go_at_call 16; refine (hpre _).mono ?_; rintro ex w' ⟨rfl, rfl⟩)
    go_ret
    refine ⟨Old.of_below hbd, hbd.size, ?_, mo, ?_⟩
    · unfold outB
      rw [if_pos hr]
      rfl
    · unfold nextT
      rw [if_pos hr]
      exact hI.later hbd
  | false =>
    rw [hr] at hpre
    have hown := hown (by rw [hr]; exact Bool.noConfusion)
    have hk := heap_alloc_new wr (.cells c 49)
    go_wp2_with (first | (go_at_call 16; refine (hpre _).mono ?_; rintro ex w' ⟨rfl, rfl⟩) | (go_at_call 17; refine (hown _ hbd).mono ?_; rintro ex w' ⟨hO, hS, rfl, hII⟩) | (refine wpList_load_row rfl 49 _ rfl wr.heap.size rfl 49 c (0, 0) _ hk Yba.underlying49 rfl (by rw [hcs.out]; exact size49) ?_))
    go_ret
    exact ⟨hO, hS, rfl, hII⟩
end
end Go.Proofs.Ybulkbwfg
