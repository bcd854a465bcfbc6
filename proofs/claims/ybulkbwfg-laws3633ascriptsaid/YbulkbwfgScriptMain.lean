/-
  LawS3633AScript: her walk (function 3).
-/
import Derived.Test.YbulkbwfgScriptLoop
import Derived.Deep.RegionHeld3
import Derived.Deep.CutBlock
namespace Go.Proofs.Ybulkbwfg
open Go.RowKit Go.Proofs

section
set_option maxHeartbeats 8000000
set_option maxRecDepth 100000
theorem script_main (a0 : Option Addr) (n cap mb mo : Nat) (S : Steps) (w : World) (hn : n ≤ 1024) (ha : 0 < n → a0 = some ⟨mb, mo, none⟩)
    (hS : ∀ i, i < n → w.cell? ⟨mb, mo + i * 6, none⟩ = some (.int .u8 (S.a i : Int)) ∧ w.cell? ⟨mb, mo + i * 6 + 1, none⟩ = some (.int .u8 (S.s i : Int)) ∧ w.cell? ⟨mb, mo + i * 6 + 2, none⟩ = some (.int .u8 (S.p i : Int)) ∧ w.cell? ⟨mb, mo + i * 6 + 3, none⟩ = some (.int .i64 (S.seq i)) ∧ w.cell? ⟨mb, mo + i * 6 + 4, none⟩ = some (.int .i8 (S.st i)) ∧ w.cell? ⟨mb, mo + i * 6 + 5, none⟩ = some (.string (S.desc i)))
    (hR : ∀ i, i < n → S.a i ≤ 255 ∧ S.s i ≤ 255 ∧ S.p i ≤ 255 ∧ (-9223372036854775808 ≤ S.seq i ∧ S.seq i ≤ 9223372036854775807) ∧ (-128 ≤ S.st i ∧ S.st i ≤ 127)) :
    Calls Yba.prog 3 #[.slice a0 n cap] w fun ex w' => ex = .returned (.bool true) ∧ Below w.heap.size w w' := by
  have HS : Hid (∀ i, i < n → w.cell? ⟨mb, mo + i * 6, none⟩ = some (.int .u8 (S.a i : Int)) ∧ w.cell? ⟨mb, mo + i * 6 + 1, none⟩ = some (.int .u8 (S.s i : Int)) ∧ w.cell? ⟨mb, mo + i * 6 + 2, none⟩ = some (.int .u8 (S.p i : Int)) ∧ w.cell? ⟨mb, mo + i * 6 + 3, none⟩ = some (.int .i64 (S.seq i)) ∧ w.cell? ⟨mb, mo + i * 6 + 4, none⟩ = some (.int .i8 (S.st i)) ∧ w.cell? ⟨mb, mo + i * 6 + 5, none⟩ = some (.string (S.desc i))) := hS
  have HR : Hid (∀ i, i < n → S.a i ≤ 255 ∧ S.s i ≤ 255 ∧ S.p i ≤ 255 ∧ (-9223372036854775808 ≤ S.seq i ∧ S.seq i ≤ 9223372036854775807) ∧ (-128 ≤ S.st i ∧ S.st i ≤ 127)) := hR
  have HA : Hid (0 < n → a0 = some ⟨mb, mo, none⟩) := ha
  clear hS hR ha
  go_enter Yba.func3, Yba.ntmps3
  have g1 : ¬ (1024 : Int) < (n : Int) := by omega
  have hmk : ∀ w, (Instr.makeMap 24 none).run Yba.prog w = .ok (.map (some w.heap.size)) (w.alloc (.map #[] 0)) := fun _ => rfl
  go_wp2_with fail
  have hI := Inv.start w (fun _ => 0)
  generalize (w.alloc (.map #[] 0)).alloc (.cells #[.slice none 0 0, .map (some w.heap.size)] 27) = W0 at hI ⊢
  obtain ⟨Mo, hMo⟩ : ∃ Mo, Mo = w.heap.size + 1 := ⟨_, rfl⟩
  obtain ⟨B, hB⟩ : ∃ B, B = w.heap.size := ⟨_, rfl⟩
  rw [← hMo, ← hB] at hI
  rw [← hMo]
  clear hMo hB
  go_loopg [4] 3 (fun g s4 wx => ∃ i E v, i ≤ 3 ∧ g = 3 - i ∧ s4 = .int .i64 (i : Int) ∧ Inv w wx Mo B i E v (fun _ => none) [])
  case atStart => exact ⟨0, _, _, by omega, rfl, rfl, hI⟩
  case round =>
    obtain ⟨i, E, v, hi, rfl, rfl, hI⟩ := hrel
    by_cases h3 : i < 3
    · have href := ref_any i (by omega)
      go_upto_region 9 with (go_at_call 8; refine (href _).mono ?_; rintro ex w1 ⟨rfl, hb1⟩; unfold refV)
      clear href
      have h37 := heap_alloc_new (w1.alloc (.cells #[.string (kindB i), .string (nameB i), .string { data := #[] }, .string { data := #[] }, .string { data := #[] }, .string { data := #[] }, .string { data := #[] }, .string { data := #[] }] 30)) (.cells (entA i none) 37)
      have h30 := (Below.heap_alloc (w1.alloc (.cells #[.string (kindB i), .string (nameB i), .string { data := #[] }, .string { data := #[] }, .string { data := #[] }, .string { data := #[] }, .string { data := #[] }, .string { data := #[] }] 30)) (.cells (entA i none) 37) w1.heap.size (by simp)).trans (heap_alloc_new w1 _)
      have hb2 : Below wr.heap.size wr ((w1.alloc (.cells #[.string (kindB i), .string (nameB i), .string { data := #[] }, .string { data := #[] }, .string { data := #[] }, .string { data := #[] }, .string { data := #[] }, .string { data := #[] }] 30)).alloc (.cells (entA i none) 37)) := (hb1.alloc hb1.size _).alloc (hb1.alloc hb1.size _).size _
      rw [World.size_alloc] at h37
      unfold entA at h37 h30 hb2
      generalize (w1.alloc (.cells #[.string (kindB i), .string (nameB i), .string { data := #[] }, .string { data := #[] }, .string { data := #[] }, .string { data := #[] }, .string { data := #[] }, .string { data := #[] }] 30)).alloc _ = W1 at h37 h30 hb2 ⊢
      have hnew : wr.heap.size ≤ w1.heap.size := hb1.size
      generalize w1.heap.size = b30 at h37 h30 hnew ⊢
      have hI1 := hI.later hb2
      obtain ⟨ao, cp, rfl⟩ := own_slice hI.own
      have m0 : W1.cell? ⟨Mo, 0, none⟩ = some (.slice ao i cp) := by simp [World.cell?, hI1.model]
      have hbz := hI1.below.size
      have HI1 : Hid (Inv w W1 Mo B i E (.slice ao i cp) (fun _ => none) []) := hI1
      have H37 : Hid (W1.heap[b30 + 1]? = some (.cells (entA i none) 37 (0, 0))) := h37
      have H30 : Hid (W1.heap[b30]? = some (.cells #[.string (kindB i), .string (nameB i), .string { data := #[] }, .string { data := #[] }, .string { data := #[] }, .string { data := #[] }, .string { data := #[] }, .string { data := #[] }] 30 (0, 0))) := h30
      have HB2 : Hid (Below wr.heap.size wr W1) := hb2
      clear hI1 h37 h30 hb2
      go_upto_region 10 with (at_builtin; refine app32 _ rfl (.tmp 48) (.tmp 50) rfl w.heap.size _ i _ rfl (HI1.out.own.alloc _) (.pointer (some ⟨b30 + 1, 0, none⟩)) W1.heap.size rfl (heap_alloc_new _ _) rfl (by omega) (by rw [World.size_alloc]; omega) ?_; intro v' W2 hown2 hgrow2; obtain ⟨m2, f2⟩ := start_mid HI1.out hgrow2; obtain ⟨ao2, cp2, rfl⟩ := own_slice hown2)
      obtain ⟨hM3, h30, W4, hput, hI4⟩ := start_put hI HB2.out H37.out H30.out hown2 hgrow2 h3 hnew
      have hcell : ∀ i, (W2.setCell ⟨Mo, 0, none⟩ (.slice ao2 (i + 1) cp2)).heap.size = 0 → True := fun _ _ => trivial
      generalize W2.setCell ⟨Mo, 0, none⟩ (.slice ao2 (i + 1) cp2) = W3 at hM3 h30 hput ⊢
      clear hcell hown2 hgrow2 m2 f2 m0 HI1 H37 H30 HB2
      have m1 : W3.cell? ⟨Mo, 1, none⟩ = some (.map (some B)) := by simp [World.cell?, hM3]
      have k0 : W3.cell? ⟨b30, 0, none⟩ = some (.string (kindB i)) := by simp [World.cell?, h30]
      have k1 : W3.cell? ⟨b30, 1, none⟩ = some (.string (nameB i)) := by simp [World.cell?, h30]
      have k2 : W3.cell? ⟨b30, 2, none⟩ = some (.string { data := #[] }) := by simp [World.cell?, h30]
      have k3 : W3.cell? ⟨b30, 3, none⟩ = some (.string { data := #[] }) := by simp [World.cell?, h30]
      have k4 : W3.cell? ⟨b30, 4, none⟩ = some (.string { data := #[] }) := by simp [World.cell?, h30]
      have k5 : W3.cell? ⟨b30, 5, none⟩ = some (.string { data := #[] }) := by simp [World.cell?, h30]
      have k6 : W3.cell? ⟨b30, 6, none⟩ = some (.string { data := #[] }) := by simp [World.cell?, h30]
      have k7 : W3.cell? ⟨b30, 7, none⟩ = some (.string { data := #[] }) := by simp [World.cell?, h30]
      unfold refV at hput
      clear hM3 h30
      refine wp_region_any (by kernel_rfl) ?_
      change wpAny _ _ _ _ _ _ _ (World.drew _)
      refine wpAny_take (i := 0) (v := .pointer (some ⟨Mo, 0, none⟩)) rfl (by kernel_rfl) (by kernel_rfl) (by kernel_rfl) (fun _ _ _ h => h) (Or.inl ⟨by rfl, fun w => by go_simp⟩) ?_
      refine wpAny_take (i := 1) (v := .pointer (some ⟨Mo, 0, none⟩)) rfl (by kernel_rfl) (by kernel_rfl) (by kernel_rfl) (fun _ _ _ h => h) (Or.inl ⟨by rfl, fun w => by go_simp⟩) ?_
      refine wpAny_take (i := 2) (v := .pointer (some ⟨Mo, 1, none⟩)) rfl (by kernel_rfl) (by kernel_rfl) (by kernel_rfl) (fun _ _ _ h => h) (Or.inl ⟨by rfl, fun w => by go_simp⟩) ?_
      refine wpAny_take (i := 5) (v := .pointer (some ⟨b30 + 1, 0, none⟩)) rfl (by kernel_rfl) (by kernel_rfl) (by kernel_rfl) (fun _ _ _ h => h) (Or.inl ⟨by rfl, fun w => by go_simp⟩) ?_
      apply both_of
      case k =>
        intro common
        refine wpAny_ready (rs := [3, 4]) (by kernel_rfl) (by simp) ?_
        refine (AllReady.cons rfl (fun K hK => ?_) (AllReady.cons rfl (fun K hK => ?_) AllReady.nil))
        · go_simp
          refine hK _ _ ?_
          clear hK K
          refine wpAny_ready (rs := [4]) (by kernel_rfl) (by simp) ?_
          refine (AllReady.cons rfl (fun K hK => ?_) AllReady.nil)
          · go_simp
            refine hK _ _ ?_
            clear hK K
            exact common
        · go_simp
          refine hK _ _ ?_
          clear hK K
          refine wpAny_ready (rs := [3]) (by kernel_rfl) (by simp) ?_
          refine (AllReady.cons rfl (fun K hK => ?_) AllReady.nil)
          · go_simp
            refine hK _ _ ?_
            clear hK K
            exact common
      case h =>
        refine wpAny_ready (rs := [6]) (by kernel_rfl) (by simp) ?_
        refine AllReady.cons rfl (fun K hK => ?_) AllReady.nil
        go_simp
        refine hK _ _ ?_
        clear hK K
        refine wpAny_done (by kernel_rfl) ?_ _
        go_wp2_with fail
        go_roundg (3 - (i + 1))
        case measure => omega
        case rel => exact ⟨i + 1, _, _, by omega, rfl, by go_num, hI4⟩
    · have hi3 : i = 3 := by omega
      subst hi3
      clear h3 hi
      go_upto_region 11 with fail
      go_cut [7] (fun s7 wx => s7 = .slice none 0 0 ∧ wx = wr)
      case first =>
        go_wp2_with fail
        go_meet
        exact ⟨rfl, rfl⟩
      case rest =>
        obtain ⟨rfl, hwc⟩ := hcut
        rw [hwc]
        clear hwc
        apply_assumption
        exact loop12 hn HA HS HR hI
end
end Go.Proofs.Ybulkbwfg
