/-
  LawS3633AScript: her walk (function 3).
-/
import Derived.Test.YbulkbwfgScriptAfter
import Derived.Test.YbulkbwfgScriptReg18
import Derived.Deep.RegionHeld3
import Derived.Deep.CutBlock
namespace Go.Proofs.Ybulkbwfg
open Go.RowKit Go.Proofs

/-- A cell of the step's own variable, behind 'Apply'. -/
theorem step_cell {wc W3 : World} {b : Nat} {cs : Array Value} (h : wc.heap[b]? = some (.cells cs 41 (0, 0))) (ho : Old wc W3) (i : Nat) : W3.cell? ⟨b, i, none⟩ = cs[i]? := by
  have := ho b cs 41 (0, 0) (by decide) h
  simp [World.cell?, this]
/-- The cells of the table's row at k. -/
theorem row_cells {W : World} {base g cp k : Nat} {T : List Ent} {x : Ent} (h : W.ownsRow base 52 6 (.slice (some ⟨g, 0, none⟩) T.length cp) T.length (T.flatMap Ent.cells)) (hx : T[k]? = some x) :
    W.cell? ⟨g, k * 6, none⟩ = some (.int .i64 (x.e : Int)) ∧ W.cell? ⟨g, k * 6 + 1, none⟩ = some (.int .i64 (x.s : Int)) ∧ W.cell? ⟨g, k * 6 + 2, none⟩ = some (.int .i64 (x.p : Int)) ∧ W.cell? ⟨g, k * 6 + 3, none⟩ = some (.int .i64 x.seq) ∧ W.cell? ⟨g, k * 6 + 4, none⟩ = some (.int .i64 x.st) ∧ W.cell? ⟨g, k * 6 + 5, none⟩ = some (.string x.desc) ∧ ∀ i, W.frozen? ⟨g, i, none⟩ = false := by
  have hi : k < T.length := (List.getElem?_eq_some_iff.1 hx).1
  have q : ∀ c, c < 6 → W.cell? ⟨g, k * 6 + c, none⟩ = x.cells[c]? := fun c hc => by
    rw [h.cellAt _ (by omega), flat_get T k c x hc hx]
  exact ⟨q 0 (by omega), q 1 (by omega), q 2 (by omega), q 3 (by omega), q 4 (by omega), q 5 (by omega), fun i => h.frozenAt i⟩

section
set_option maxHeartbeats 8000000
set_option maxRecDepth 100000
theorem script_main (a0 : Option Addr) (n cap mb mo : Nat) (S : Steps) (w : World) (hn : n ≤ 1024) (ha : 0 < n → a0 = some ⟨mb, mo, none⟩)
    (hS : ∀ i, i < n → w.cell? ⟨mb, mo + i * 6, none⟩ = some (.int .u8 (S.a i : Int)) ∧ w.cell? ⟨mb, mo + i * 6 + 1, none⟩ = some (.int .u8 (S.s i : Int)) ∧ w.cell? ⟨mb, mo + i * 6 + 2, none⟩ = some (.int .u8 (S.p i : Int)) ∧ w.cell? ⟨mb, mo + i * 6 + 3, none⟩ = some (.int .i64 (S.seq i)) ∧ w.cell? ⟨mb, mo + i * 6 + 4, none⟩ = some (.int .i8 (S.st i)) ∧ w.cell? ⟨mb, mo + i * 6 + 5, none⟩ = some (.string (S.desc i)))
    (hR : ∀ i, i < n → S.a i ≤ 255 ∧ S.s i ≤ 255 ∧ S.p i ≤ 255 ∧ (-9223372036854775808 ≤ S.seq i ∧ S.seq i ≤ 9223372036854775807) ∧ (-128 ≤ S.st i ∧ S.st i ≤ 127)) :
    Calls Yba.prog 3 #[.slice a0 n cap] w fun ex w' => ex = .returned (.bool true) ∧ Below w.heap.size w w' := by
  have HS : Hid (∀ i, i < n → w.cell? ⟨mb, mo + i * 6, none⟩ = some (.int .u8 (S.a i : Int)) ∧ w.cell? ⟨mb, mo + i * 6 + 1, none⟩ = some (.int .u8 (S.s i : Int)) ∧ w.cell? ⟨mb, mo + i * 6 + 2, none⟩ = some (.int .u8 (S.p i : Int)) ∧ w.cell? ⟨mb, mo + i * 6 + 3, none⟩ = some (.int .i64 (S.seq i)) ∧ w.cell? ⟨mb, mo + i * 6 + 4, none⟩ = some (.int .i8 (S.st i)) ∧ w.cell? ⟨mb, mo + i * 6 + 5, none⟩ = some (.string (S.desc i))) := hS
  have HR : Hid (∀ i, i < n → S.a i ≤ 255 ∧ S.s i ≤ 255 ∧ S.p i ≤ 255 ∧ (-9223372036854775808 ≤ S.seq i ∧ S.seq i ≤ 9223372036854775807) ∧ (-128 ≤ S.st i ∧ S.st i ≤ 127)) := hR
  have HA : Hid (0 < n → a0 = some ⟨mb, mo, none⟩) := ha
  clear hS hR ha
  go_enter Yba.func3, Yba.ntmps3
  have g1 : ¬ (1024 : Int) < (n : Int) := by omega
  have hmk : ∀ w, (Instr.makeMap 24 none).run Yba.prog w = .ok (.map (some w.heap.size)) (w.alloc (.map #[] 0)) := fun _ => rfl
  go_wp2_with fail
  have hI := Inv.start w (fun _ => 0)
  generalize (w.alloc (.map #[] 0)).alloc (.cells #[.slice none 0 0, .map (some w.heap.size)] 27) = W0 at hI ⊢
  obtain ⟨Mo, hMo⟩ : ∃ Mo, Mo = w.heap.size + 1 := ⟨_, rfl⟩
  obtain ⟨B, hB⟩ : ∃ B, B = w.heap.size := ⟨_, rfl⟩
  rw [← hMo, ← hB] at hI
  rw [← hMo]
  clear hMo hB
  go_loopg [4] 3 (fun g s4 wx => ∃ i E v, i ≤ 3 ∧ g = 3 - i ∧ s4 = .int .i64 (i : Int) ∧ Inv w wx Mo B i E v (fun _ => none) [])
  case atStart => exact ⟨0, _, _, by omega, rfl, rfl, hI⟩
  case round =>
    obtain ⟨i, E, v, hi, rfl, rfl, hI⟩ := hrel
    by_cases h3 : i < 3
    · have href := ref_any i (by omega)
      go_upto_region 9 with (go_at_call 8; refine (href _).mono ?_; rintro ex w1 ⟨rfl, hb1⟩; unfold refV)
      clear href
      have h37 := heap_alloc_new (w1.alloc (.cells #[.string (kindB i), .string (nameB i), .string { data := #[] }, .string { data := #[] }, .string { data := #[] }, .string { data := #[] }, .string { data := #[] }, .string { data := #[] }] 30)) (.cells (entA i none) 37)
      have h30 := (Below.heap_alloc (w1.alloc (.cells #[.string (kindB i), .string (nameB i), .string { data := #[] }, .string { data := #[] }, .string { data := #[] }, .string { data := #[] }, .string { data := #[] }, .string { data := #[] }] 30)) (.cells (entA i none) 37) w1.heap.size (by simp)).trans (heap_alloc_new w1 _)
      have hb2 : Below wr.heap.size wr ((w1.alloc (.cells #[.string (kindB i), .string (nameB i), .string { data := #[] }, .string { data := #[] }, .string { data := #[] }, .string { data := #[] }, .string { data := #[] }, .string { data := #[] }] 30)).alloc (.cells (entA i none) 37)) := (hb1.alloc hb1.size _).alloc (hb1.alloc hb1.size _).size _
      rw [World.size_alloc] at h37
      unfold entA at h37 h30 hb2
      generalize (w1.alloc (.cells #[.string (kindB i), .string (nameB i), .string { data := #[] }, .string { data := #[] }, .string { data := #[] }, .string { data := #[] }, .string { data := #[] }, .string { data := #[] }] 30)).alloc _ = W1 at h37 h30 hb2 ⊢
      have hnew : wr.heap.size ≤ w1.heap.size := hb1.size
      generalize w1.heap.size = b30 at h37 h30 hnew ⊢
      have hI1 := hI.later hb2
      obtain ⟨ao, cp, rfl⟩ := own_slice hI.own
      have m0 : W1.cell? ⟨Mo, 0, none⟩ = some (.slice ao i cp) := by simp [World.cell?, hI1.model]
      have hbz := hI1.below.size
      have HI1 : Hid (Inv w W1 Mo B i E (.slice ao i cp) (fun _ => none) []) := hI1
      have H37 : Hid (W1.heap[b30 + 1]? = some (.cells (entA i none) 37 (0, 0))) := h37
      have H30 : Hid (W1.heap[b30]? = some (.cells #[.string (kindB i), .string (nameB i), .string { data := #[] }, .string { data := #[] }, .string { data := #[] }, .string { data := #[] }, .string { data := #[] }, .string { data := #[] }] 30 (0, 0))) := h30
      have HB2 : Hid (Below wr.heap.size wr W1) := hb2
      clear hI1 h37 h30 hb2
      go_upto_region 10 with (at_builtin; refine app32 _ rfl (.tmp 48) (.tmp 50) rfl w.heap.size _ i _ rfl (HI1.out.own.alloc _) (.pointer (some ⟨b30 + 1, 0, none⟩)) W1.heap.size rfl (heap_alloc_new _ _) rfl (by omega) (by rw [World.size_alloc]; omega) ?_; intro v' W2 hown2 hgrow2; obtain ⟨m2, f2⟩ := start_mid HI1.out hgrow2; obtain ⟨ao2, cp2, rfl⟩ := own_slice hown2)
      obtain ⟨hM3, h30, W4, hput, hI4⟩ := start_put hI HB2.out H37.out H30.out hown2 hgrow2 h3 hnew
      have hcell : ∀ i, (W2.setCell ⟨Mo, 0, none⟩ (.slice ao2 (i + 1) cp2)).heap.size = 0 → True := fun _ _ => trivial
      generalize W2.setCell ⟨Mo, 0, none⟩ (.slice ao2 (i + 1) cp2) = W3 at hM3 h30 hput ⊢
      clear hcell hown2 hgrow2 m2 f2 m0 HI1 H37 H30 HB2
      have m1 : W3.cell? ⟨Mo, 1, none⟩ = some (.map (some B)) := by simp [World.cell?, hM3]
      have k0 : W3.cell? ⟨b30, 0, none⟩ = some (.string (kindB i)) := by simp [World.cell?, h30]
      have k1 : W3.cell? ⟨b30, 1, none⟩ = some (.string (nameB i)) := by simp [World.cell?, h30]
      have k2 : W3.cell? ⟨b30, 2, none⟩ = some (.string { data := #[] }) := by simp [World.cell?, h30]
      have k3 : W3.cell? ⟨b30, 3, none⟩ = some (.string { data := #[] }) := by simp [World.cell?, h30]
      have k4 : W3.cell? ⟨b30, 4, none⟩ = some (.string { data := #[] }) := by simp [World.cell?, h30]
      have k5 : W3.cell? ⟨b30, 5, none⟩ = some (.string { data := #[] }) := by simp [World.cell?, h30]
      have k6 : W3.cell? ⟨b30, 6, none⟩ = some (.string { data := #[] }) := by simp [World.cell?, h30]
      have k7 : W3.cell? ⟨b30, 7, none⟩ = some (.string { data := #[] }) := by simp [World.cell?, h30]
      unfold refV at hput
      clear hM3 h30
      refine wp_region_any (by kernel_rfl) ?_
      change wpAny _ _ _ _ _ _ _ (World.drew _)
      refine wpAny_take (i := 0) (v := .pointer (some ⟨Mo, 0, none⟩)) rfl (by kernel_rfl) (by kernel_rfl) (by kernel_rfl) (fun _ _ _ h => h) (Or.inl ⟨by rfl, fun w => by go_simp⟩) ?_
      refine wpAny_take (i := 1) (v := .pointer (some ⟨Mo, 0, none⟩)) rfl (by kernel_rfl) (by kernel_rfl) (by kernel_rfl) (fun _ _ _ h => h) (Or.inl ⟨by rfl, fun w => by go_simp⟩) ?_
      refine wpAny_take (i := 2) (v := .pointer (some ⟨Mo, 1, none⟩)) rfl (by kernel_rfl) (by kernel_rfl) (by kernel_rfl) (fun _ _ _ h => h) (Or.inl ⟨by rfl, fun w => by go_simp⟩) ?_
      refine wpAny_take (i := 5) (v := .pointer (some ⟨b30 + 1, 0, none⟩)) rfl (by kernel_rfl) (by kernel_rfl) (by kernel_rfl) (fun _ _ _ h => h) (Or.inl ⟨by rfl, fun w => by go_simp⟩) ?_
      apply both_of
      case k =>
        intro common
        refine wpAny_ready (rs := [3, 4]) (by kernel_rfl) (by simp) ?_
        refine (AllReady.cons rfl (fun K hK => ?_) (AllReady.cons rfl (fun K hK => ?_) AllReady.nil))
        · go_simp
          refine hK _ _ ?_
          clear hK K
          refine wpAny_ready (rs := [4]) (by kernel_rfl) (by simp) ?_
          refine (AllReady.cons rfl (fun K hK => ?_) AllReady.nil)
          · go_simp
            refine hK _ _ ?_
            clear hK K
            exact common
        · go_simp
          refine hK _ _ ?_
          clear hK K
          refine wpAny_ready (rs := [3]) (by kernel_rfl) (by simp) ?_
          refine (AllReady.cons rfl (fun K hK => ?_) AllReady.nil)
          · go_simp
            refine hK _ _ ?_
            clear hK K
            exact common
      case h =>
        refine wpAny_ready (rs := [6]) (by kernel_rfl) (by simp) ?_
        refine AllReady.cons rfl (fun K hK => ?_) AllReady.nil
        go_simp
        refine hK _ _ ?_
        clear hK K
        refine wpAny_done (by kernel_rfl) ?_ _
        go_wp2_with fail
        go_roundg (3 - (i + 1))
        case measure => omega
        case rel => exact ⟨i + 1, _, _, by omega, rfl, by go_num, hI4⟩
    · have hi3 : i = 3 := by omega
      subst hi3
      go_wp2_with fail
      -- the second loop: the steps
      go_loopg [7, 62] n (fun g s7 s62 wx => ∃ (j : Nat) (T : List Ent) (ao : Option Addr) (cp : Nat), j ≤ n ∧ g = n - j ∧ T.length ≤ j ∧ s7 = .slice ao T.length cp ∧ s62 = .int .i64 (j : Int) ∧ St w wx Mo B E v ao cp T)
      case atStart => exact ⟨0, [], none, 0, Nat.zero_le _, rfl, Nat.le_refl _, rfl, rfl, ⟨_, hI⟩, World.ownsRow_nil _ _ _ _, List.Pairwise.nil⟩
      case round =>
        obtain ⟨j, T, ao, cp, hj, rfl, hTj, rfl, rfl, hT⟩ := hrel
        clear hI
        by_cases hlt : j < n
        · obtain rfl := HA.out (by omega)
          obtain ⟨d0, d1, d2, d3, d4, d5⟩ := HS.out j hlt
          obtain ⟨ra, rs, rp, rq, rt⟩ := HR.out j hlt
          have hbl := hT.below
          replace d0 := cell_later hbl d0
          replace d1 := cell_later hbl d1
          replace d2 := cell_later hbl d2
          replace d3 := cell_later hbl d3
          replace d4 := cell_later hbl d4
          replace d5 := cell_later hbl d5
          generalize S.a j = xa at d0 ra
          generalize S.s j = xs at d1 rs
          generalize S.p j = xp at d2 rp
          generalize S.seq j = seq at d3 rq
          generalize S.st j = st at d4 rt
          generalize S.desc j = desc at d5
          have t0 : (xa : Int).tmod 4 = ((xa % 4 : Nat) : Int) := by rfl
          have t1 : (xs : Int).tmod 5 = ((xs % 5 : Nat) : Int) := by rfl
          have t2 : (xp : Int).tmod 2 = ((xp % 2 : Nat) : Int) := by rfl
          go_upto_region 18 with fail
          obtain ⟨e, he, hee⟩ : ∃ e : Nat, e < 4 ∧ ((xa : Int) % 4) = (e : Int) := ⟨xa % 4, Nat.mod_lt _ (by decide), by omega⟩
          obtain ⟨s, hs, hss⟩ : ∃ s : Nat, s < 5 ∧ ((xs : Int) % 5) = (s : Int) := ⟨xs % 5, Nat.mod_lt _ (by decide), by omega⟩
          obtain ⟨p, hp, hpp⟩ : ∃ p : Nat, p < 2 ∧ ((xp : Int) % 2) = (p : Int) := ⟨xp % 2, Nat.mod_lt _ (by decide), by omega⟩
          rw [hee, hss, hpp]
          have ha1 := heap_alloc_new wr (.cells #[.int .u8 (xa : Int), .int .u8 (xs : Int), .int .u8 (xp : Int), .int .i64 seq, .int .i8 st, .string desc] 41)
          have hb1 : Below wr.heap.size wr (wr.alloc (.cells #[.int .u8 (xa : Int), .int .u8 (xs : Int), .int .u8 (xp : Int), .int .i64 seq, .int .i8 st, .string desc] 41)) := (Below.refl _ _).alloc (Nat.le_refl _) _
          generalize wr.alloc (.cells #[.int .u8 (xa : Int), .int .u8 (xs : Int), .int .u8 (xp : Int), .int .i64 seq, .int .i8 st, .string desc] 41) = W1 at ha1 hb1 ⊢
          have c3 : W1.cell? ⟨wr.heap.size, 3, none⟩ = some (.int .i64 seq) := by simp [World.cell?, ha1]
          have c4 : W1.cell? ⟨wr.heap.size, 4, none⟩ = some (.int .i8 st) := by simp [World.cell?, ha1]
          have c5 : W1.cell? ⟨wr.heap.size, 5, none⟩ = some (.string desc) := by simp [World.cell?, ha1]
          have hT1 := hT.later hb1
          have HA1 : Hid (W1.heap[wr.heap.size]? = some (.cells #[.int .u8 (xa : Int), .int .u8 (xs : Int), .int .u8 (xp : Int), .int .i64 seq, .int .i8 st, .string desc] 41 (0, 0))) := ha1
          clear d0 d1 d2 d3 d4 d5 hbl ha1 hb1 t0 t1 t2
          have href := ref_any e he
          have hsrc := src_any s hs
          have hprop := prop_any p hp
          have hwst : IntKind.i64.wrap st = st := by simp [IntKind.wrap, IntKind.bits, IntKind.signed]; omega
          obtain ⟨c, hc⟩ : ∃ c, c = repA e s p st desc seq := ⟨_, rfl⟩
          have HC : Hid (c = repA e s p st desc seq) := hc
          have HSz : Hid (c.size = 18) := by rw [hc]; exact repA_size _ _ _ _ _ _
          have HAl : Hid (c.all (·.oneCell') = true) := by rw [hc]; exact repA_all _ _ _ _ _ _
          clear hc
          go_cut [13] (fun s13 wx => ∃ g, s13 = .pointer (some ⟨g, 0, none⟩) ∧ wx.heap[g]? = some (.cells c 49 (0, 0)) ∧ Below W1.heap.size W1 wx)
          case first =>
            refine reg18 he hs hp c3 c4 c5 hwst HC HSz HAl (fun _ _ _ _ _ h => h) ?_
            intro g wx hgx hbx
            go_wp2_with fail
            go_meet
            exact ⟨g, rfl, hgx, hbx⟩
          case rest =>
            obtain ⟨g, rfl, hg49, hb2⟩ := hcut
            generalize wc = Wc at *
            have hT2 := hT1.later hb2
            replace c3 := cell_later hb2 c3
            replace c4 := cell_later hb2 c4
            replace c5 := cell_later hb2 c5
            have hA2 := (hb2.block _ (Array.getElem?_eq_some_iff.1 HA1.out).1).trans HA1.out
            have HA2 : Hid (Wc.heap[wr.heap.size]? = some (.cells #[.int .u8 (xa : Int), .int .u8 (xs : Int), .int .u8 (xp : Int), .int .i64 seq, .int .i8 st, .string desc] 41 (0, 0))) := hA2
            clear hA2 HA1 href hsrc hprop HAl hT hb2
            obtain ⟨mo1, hI2⟩ := hT2.inv
            have HQ : Hid (-9223372036854775808 ≤ seq ∧ seq ≤ 9223372036854775807) := rq
            have HJ : Hid (j < n ∧ T.length ≤ j ∧ n ≤ 1024) := ⟨hlt, hTj, hn⟩
            have HE : Hid (e < 4 ∧ s < 5 ∧ p < 2) := ⟨he, hs, hp⟩
            have HI2 : Hid (Inv w Wc Mo B 3 E v mo1 T) := hI2
            have HT2 : Hid (St w Wc Mo B E v ao cp T) := hT2
            have hres := res_any s hs
            have hfind := find_any e s p T.length T ao cp Wc rfl (by omega) hT2.ownAt
            clear ra rs rp rt rq hee hss hpp hlt hTj hj hn g1 he hs hp hI2 hT2 hT1
            obtain ⟨kI, hkI⟩ : ∃ kI, kI = fndI e s p T := ⟨_, rfl⟩
            obtain ⟨last, hlast⟩ : ∃ last, last = seqOf (look e s p T) := ⟨_, rfl⟩
            rw [← hkI] at hfind
            have HL : Hid (seqOf (look e s p T) = last) := hlast.symm
            have HF : Hid ((fnd e s p T = none ∧ kI = -1 ∧ last = 0) ∨ ∃ k x, fnd e s p T = some k ∧ kI = (k : Int) ∧ T[k]? = some x ∧ k < T.length ∧ last = x.seq) := by
              cases hf : fnd e s p T with
              | none => exact Or.inl ⟨rfl, by rw [hkI]; unfold fndI; rw [hf], by rw [hlast, look_none hf]; rfl⟩
              | some k =>
                obtain ⟨x, hx, hlk⟩ := look_of_fnd hf
                exact Or.inr ⟨k, x, rfl, by rw [hkI]; unfold fndI; rw [hf], hx, fnd_lt hf, by rw [hlast, hlk]; rfl⟩
            have HB : Hid (-9223372036854775808 ≤ last ∧ last ≤ 9223372036854775807) := by
              rcases HF.out with ⟨_, _, h0⟩ | ⟨k, x, hf, _, hx, _, h0⟩
              · rw [h0]; exact ⟨by decide, by decide⟩
              · rw [h0]; exact (HI2.out.tab x (List.mem_of_getElem? hx)).2.2
            clear hkI hlast
            go_upto_if 98 with (go_at_call 11; refine hfind.mono ?_; rintro ex w' ⟨rfl, hw'⟩; rw [hw']; clear hw' w')
            go_cut [15] (fun s15 wx => s15 = .int .i64 last ∧ wx = Wc)
            case first =>
              rcases HF.out with ⟨_, hk, h0⟩ | ⟨k, x, hf, hk, hx, hkl, h0⟩
              · have hk1 : ¬ ((0 : Int) ≤ kI) := by omega
                have H0 : Hid (last = 0) := h0
                clear hk h0 hfind hres c3 c4 c5
                go_wp2_with fail
                go_meet
                exact ⟨by rw [H0.out], rfl⟩
              · obtain ⟨g', hao, _, _, _, _, q3, _, _⟩ := HT2.out.at hx
                subst hk
                subst hao
                have hk0 : (0 : Int) ≤ (k : Int) := by omega
                have hk1 : (k : Int) < (T.length : Int) := by omega
                rw [← h0] at q3
                clear h0 hkl hfind hres c3 c4 c5
                go_wp2_with fail
                go_meet
                exact ⟨rfl, rfl⟩
            case rest =>
              obtain ⟨rfl, hwc⟩ := hcut
              rw [hwc]
              clear hwc wc
              clear hfind
              go_upto_block 4 with fail
              go_cut [10, 15, 16, 17] (fun s10 s15 s16 s17 wx => (wx = Wc) ∧ s10 = .int .i64 (e : Int) ∧ s15 = .int .i64 last ∧ s16 = .string (outB e s (newSeq last seq)) ∧ ∃ q, s17 = .int .i64 q ∧ (¬ resB s = true → ¬ e = 3 → ∀ q', newSeq last seq = some q' → q = q'))
              case first =>
                by_cases hr : resB s = true
                · rw [hr] at hres
                  go_wp2_with (go_at_call 12; refine (hres _).mono ?_; rintro ex w' ⟨rfl, hw'⟩; rw [hw']; clear hw' w')
                  go_meet
                  exact ⟨rfl, rfl, rfl, by unfold outB; rw [if_pos hr]; rfl, _, rfl, fun h => absurd hr h⟩
                · have hr : resB s = false := by simpa using hr
                  rw [hr] at hres
                  by_cases h3e : e = 3
                  · have h3i : (e : Int) = 3 := by omega
                    have H3 : Hid (e = 3) := h3e
                    clear h3e
                    go_wp2_with (go_at_call 12; refine (hres _).mono ?_; rintro ex w' ⟨rfl, hw'⟩; rw [hw']; clear hw' w')
                    go_meet
                    exact ⟨rfl, by rw [h3i], rfl, by unfold outB; rw [if_neg (by rw [hr]; exact Bool.noConfusion), if_pos H3.out]; rfl, _, rfl, fun _ h => absurd H3.out h⟩
                  · have h3i : ¬ ((e : Int) = 3) := by omega
                    by_cases h0 : seq = 0
                    · have H0 : Hid (seq = 0) := h0
                      by_cases hmx : last = 9223372036854775807
                      · have HN : Hid (newSeq last seq = none) := by unfold Hid; rw [h0, hmx]; rfl
                        have HX : Hid (last = 9223372036854775807) := hmx
                        go_wp2_with (go_at_call 12; refine (hres _).mono ?_; rintro ex w' ⟨rfl, hw'⟩; rw [hw']; clear hw' w')
                        go_meet
                        exact ⟨rfl, rfl, by rw [HX.out], by unfold outB; rw [if_neg (by rw [hr]; exact Bool.noConfusion), if_neg h3e, HN.out]; rfl, _, rfl, fun _ _ q' h => by rw [HN.out] at h; cases h⟩
                      · have HN : Hid (newSeq last seq = some (last + 1)) := by unfold Hid newSeq; rw [if_pos h0, if_neg hmx]
                        have hwl : IntKind.i64.wrap (last + 1) = last + 1 := by
                          have hb := HB.out
                          simp [IntKind.wrap, IntKind.bits, IntKind.signed]
                          omega
                        go_wp2_with (go_at_call 12; refine (hres _).mono ?_; rintro ex w' ⟨rfl, hw'⟩; rw [hw']; clear hw' w')
                        go_meet
                        exact ⟨rfl, rfl, rfl, by unfold outB; rw [if_neg (by rw [hr]; exact Bool.noConfusion), if_neg h3e, HN.out], _, rfl, fun _ _ q' h => by rw [HN.out] at h; cases h; rfl⟩
                    · by_cases h1 : seq ≤ last
                      · have HN : Hid (newSeq last seq = none) := by unfold Hid newSeq; rw [if_neg h0, if_pos h1]
                        go_wp2_with (go_at_call 12; refine (hres _).mono ?_; rintro ex w' ⟨rfl, hw'⟩; rw [hw']; clear hw' w')
                        go_meet
                        exact ⟨rfl, rfl, rfl, by unfold outB; rw [if_neg (by rw [hr]; exact Bool.noConfusion), if_neg h3e, HN.out]; rfl, _, rfl, fun _ _ q' h => by rw [HN.out] at h; cases h⟩
                      · have HN : Hid (newSeq last seq = some seq) := by unfold Hid newSeq; rw [if_neg h0, if_neg h1]
                        go_wp2_with (go_at_call 12; refine (hres _).mono ?_; rintro ex w' ⟨rfl, hw'⟩; rw [hw']; clear hw' w')
                        go_meet
                        exact ⟨rfl, rfl, rfl, by unfold outB; rw [if_neg (by rw [hr]; exact Bool.noConfusion), if_neg h3e, HN.out], _, rfl, fun _ _ q' h => by rw [HN.out] at h; cases h; rfl⟩
              case rest =>
                obtain ⟨hwc, rfl, rfl, rfl, q, rfl, hq⟩ := hcut
                rw [hwc]
                clear hwc wc c3 c4 c5
                have HW : Hid (IntKind.i64.wrap st = st) := hwst
                clear hwst
                by_cases hP : resB s = true ∨ e = 3 ∨ newSeq last seq = none
                · have hnn : (outB e s (newSeq last seq) = reserved ∨ outB e s (newSeq last seq) = unknown ∨ outB e s (newSeq last seq) = stale) ∧ nextT e s p st desc (newSeq last seq) T = T := by
                    unfold outB nextT
                    by_cases hr : resB s = true
                    · rw [if_pos hr, if_pos hr]
                      exact ⟨Or.inl rfl, rfl⟩
                    · rw [if_neg hr, if_neg hr]
                      by_cases h3 : e = 3
                      · rw [if_pos h3, if_pos h3]
                        exact ⟨Or.inr (Or.inl rfl), rfl⟩
                      · rw [if_neg h3, if_neg h3]
                        rcases hP with h | h | h
                        · exact absurd h hr
                        · exact absurd h h3
                        · rw [h]
                          exact ⟨Or.inr (Or.inr rfl), rfl⟩
                  obtain ⟨hne, hnt⟩ := hnn
                  have happ : Calls Yba.prog 13 #[.pointer (some ⟨Mo, 0, none⟩), .agg c] Wc fun ex w' => ex = .returned (.string (outB e s (newSeq last seq))) ∧ St w w' Mo B E v ao cp T := by
                    have h := apply_any w Wc Mo B E v mo1 T e s p st desc seq HE.out.1 HE.out.2.1 HE.out.2.2 HQ.out HI2.out
                    rw [HC.out]
                    refine h.mono ?_
                    rintro ex w' ⟨hO, hSz', rfl, mo', hI'⟩
                    rw [HL.out, hnt] at hI'
                    rw [HL.out]
                    exact ⟨rfl, ⟨mo', hI'⟩, own_old HT2.out.own hO, HT2.out.one⟩
                  generalize outB e s (newSeq last seq) = o at hne happ ⊢
                  clear hP hnt hq
                  rcases hne with rfl | rfl | rfl
                  · unfold reserved at happ ⊢
                    obtain ⟨hj1, hj2, hj3⟩ := HJ.out
                    have g1 : (n : Int) ≤ 1024 := by omega
                    have g2 : (j : Int) < (n : Int) := by omega
                    go_wp2_with (first | (go_at_call 13; refine happ.mono ?_; rintro ex W3 ⟨rfl, hT3⟩) | (refine wpList_load_row rfl 49 _ rfl g rfl 49 c (0, 0) _ hg49 Yba.underlying49 rfl (by rw [HSz.out]; exact size49) ?_))
                    go_roundg (n - (j + 1))
                    case measure => omega
                    case rel => exact ⟨j + 1, T, _, cp, by omega, rfl, by omega, rfl, by go_num, hT3⟩
                  · unfold unknown at happ ⊢
                    obtain ⟨hj1, hj2, hj3⟩ := HJ.out
                    have g1 : (n : Int) ≤ 1024 := by omega
                    have g2 : (j : Int) < (n : Int) := by omega
                    go_wp2_with (first | (go_at_call 13; refine happ.mono ?_; rintro ex W3 ⟨rfl, hT3⟩) | (refine wpList_load_row rfl 49 _ rfl g rfl 49 c (0, 0) _ hg49 Yba.underlying49 rfl (by rw [HSz.out]; exact size49) ?_))
                    go_roundg (n - (j + 1))
                    case measure => omega
                    case rel => exact ⟨j + 1, T, _, cp, by omega, rfl, by omega, rfl, by go_num, hT3⟩
                  · unfold stale at happ ⊢
                    obtain ⟨hj1, hj2, hj3⟩ := HJ.out
                    have g1 : (n : Int) ≤ 1024 := by omega
                    have g2 : (j : Int) < (n : Int) := by omega
                    go_wp2_with (first | (go_at_call 13; refine happ.mono ?_; rintro ex W3 ⟨rfl, hT3⟩) | (refine wpList_load_row rfl 49 _ rfl g rfl 49 c (0, 0) _ hg49 Yba.underlying49 rfl (by rw [HSz.out]; exact size49) ?_))
                    go_roundg (n - (j + 1))
                    case measure => omega
                    case rel => exact ⟨j + 1, T, _, cp, by omega, rfl, by omega, rfl, by go_num, hT3⟩
                · have hr : ¬ resB s = true := fun h => hP (Or.inl h)
                  have h3 : ¬ e = 3 := fun h => hP (Or.inr (Or.inl h))
                  obtain ⟨q', hq'⟩ : ∃ q', newSeq last seq = some q' := by
                    cases h : newSeq last seq with
                    | none => exact absurd (Or.inr (Or.inr h)) hP
                    | some q' => exact ⟨q', rfl⟩
                  obtain rfl := hq hr h3 q' hq'
                  have happ : Calls Yba.prog 13 #[.pointer (some ⟨Mo, 0, none⟩), .agg c] Wc fun ex w' => ex = .returned (.string { data := #[] }) ∧ Old Wc w' ∧ ∃ mo', Inv w w' Mo B 3 E v mo' (putE ⟨e, s, p, q, st, desc⟩ T) := by
                    have h := apply_any w Wc Mo B E v mo1 T e s p st desc seq HE.out.1 HE.out.2.1 HE.out.2.2 HQ.out HI2.out
                    rw [HC.out]
                    refine h.mono ?_
                    rintro ex w' ⟨hO, hSz', rfl, mo', hI'⟩
                    rw [HL.out, hq'] at hI' ⊢
                    unfold nextT at hI'
                    rw [if_neg hr, if_neg h3] at hI'
                    unfold outB
                    rw [if_neg hr, if_neg h3]
                    exact ⟨rfl, hO, mo', hI'⟩
                  have hob : outB e s (newSeq last seq) = { data := #[] } := by unfold outB; rw [if_neg hr, if_neg h3, hq']
                  rw [hob]
                  clear hob hq' hq hr h3 hP
                  have hwst : IntKind.i64.wrap st = st := HW.out
                  rcases HF.out with ⟨hf, hk, _⟩ | ⟨k, x, hf, hk, hx, hkl, _⟩
                  · have hk1 : ¬ ((0 : Int) ≤ kI) := by omega
                    clear hk
                    go_upto_region 43 with (first | (go_at_call 13; refine happ.mono ?_; rintro ex W3 ⟨rfl, hO3, mo3, hI3⟩; have a4 := step_cell HA2.out hO3 4; have a5 := step_cell HA2.out hO3 5; simp at a4 a5) | (refine wpList_load_row rfl 49 _ rfl g rfl 49 c (0, 0) _ hg49 Yba.underlying49 rfl (by rw [HSz.out]; exact size49) ?_))
                    clear happ a4 a5
                    have hown3 := own_old HT2.out.own hO3
                    have hn4 := heap_alloc_new W3 (.cells #[.int .i64 (e : Int), .int .i64 (s : Int), .int .i64 (p : Int), .int .i64 q, .int .i64 st, .string desc] 52)
                    have hb4 : Below W3.heap.size W3 (W3.alloc (.cells #[.int .i64 (e : Int), .int .i64 (s : Int), .int .i64 (p : Int), .int .i64 q, .int .i64 st, .string desc] 52)) := (Below.refl _ _).alloc (Nat.le_refl _) _
                    generalize W3.alloc (.cells #[.int .i64 (e : Int), .int .i64 (s : Int), .int .i64 (p : Int), .int .i64 q, .int .i64 st, .string desc] 52) = W4 at hn4 hb4 ⊢
                    have hI4 := hI3.later hb4
                    have hown4 := own_old hown3 (Old.of_below hb4)
                    have e0 : W4.cell? ⟨W3.heap.size, 0, none⟩ = some (.int .i64 (e : Int)) := by simp [World.cell?, hn4]
                    have e1 : W4.cell? ⟨W3.heap.size, 1, none⟩ = some (.int .i64 (s : Int)) := by simp [World.cell?, hn4]
                    have e2 : W4.cell? ⟨W3.heap.size, 2, none⟩ = some (.int .i64 (p : Int)) := by simp [World.cell?, hn4]
                    have e3 : W4.cell? ⟨W3.heap.size, 3, none⟩ = some (.int .i64 q) := by simp [World.cell?, hn4]
                    have e4 : W4.cell? ⟨W3.heap.size, 4, none⟩ = some (.int .i64 st) := by simp [World.cell?, hn4]
                    have e5 : W4.cell? ⟨W3.heap.size, 5, none⟩ = some (.string desc) := by simp [World.cell?, hn4]
                    clear hn4
                    have hbz := hI4.below.size
                    have HI4 : Hid (Inv w W4 Mo B 3 E v mo3 (putE ⟨e, s, p, q, st, desc⟩ T)) := hI4
                    have HO4 : Hid (W4.ownsRow w.heap.size 52 6 (.slice ao T.length cp) T.length (T.flatMap Ent.cells)) := hown4
                    have HN2 : Hid (NoTwice T) := HT2.out.one
                    clear hI4 hown3 hI3 hO3 hb4
                    clear hown4
                    obtain ⟨hj1, hj2, hj3⟩ := HJ.out
                    have g1 : (n : Int) ≤ 1024 := by omega
                    have g2 : (j : Int) < (n : Int) := by omega
                    go_wp2_with (at_builtin; refine app52 _ rfl (.tmp 155) (.tmp 157) rfl w.heap.size _ T.length _ rfl (HO4.out.alloc _) ⟨e, s, p, q, st, desc⟩ W4.heap.size rfl (heap_alloc_new _ _) (by (have hjj := HJ.out); omega) (by rw [World.size_alloc]; omega) ?_; intro v7 W6 hown6 hgrow6)
                    obtain ⟨ao6, cp6, rfl, hT6⟩ := St.app (HI4.out.later ((Below.refl _ _).alloc (Nat.le_refl _) _)) (HO4.out.alloc _) HN2.out hf hown6 hgrow6
                    go_roundg (n - (j + 1))
                    case measure => omega
                    case rel => exact ⟨j + 1, putE ⟨e, s, p, q, st, desc⟩ T, ao6, cp6, by omega, rfl, by rw [put_app (x := ⟨e, s, p, q, st, desc⟩) hf, List.length_append]; show T.length + 1 ≤ j + 1; omega, rfl, by go_num, hT6⟩
                  · obtain ⟨g', hao, _, _, _, _, _, _, _⟩ := HT2.out.at hx
                    subst hk
                    subst hao
                    have hk0 : (0 : Int) ≤ (k : Int) := by omega
                    have hk1 : (k : Int) < (T.length : Int) := by omega
                    go_upto_region 42 with (first | (go_at_call 13; refine happ.mono ?_; rintro ex W3 ⟨rfl, hO3, mo3, hI3⟩; have a4 := step_cell HA2.out hO3 4; have a5 := step_cell HA2.out hO3 5; simp at a4 a5) | (refine wpList_load_row rfl 49 _ rfl g rfl 49 c (0, 0) _ hg49 Yba.underlying49 rfl (by rw [HSz.out]; exact size49) ?_))
                    clear happ a4 a5
                    have hown3 := own_old HT2.out.own hO3
                    have hn4 := heap_alloc_new W3 (.cells #[.int .i64 (e : Int), .int .i64 (s : Int), .int .i64 (p : Int), .int .i64 q, .int .i64 st, .string desc] 52)
                    have hb4 : Below W3.heap.size W3 (W3.alloc (.cells #[.int .i64 (e : Int), .int .i64 (s : Int), .int .i64 (p : Int), .int .i64 q, .int .i64 st, .string desc] 52)) := (Below.refl _ _).alloc (Nat.le_refl _) _
                    generalize W3.alloc (.cells #[.int .i64 (e : Int), .int .i64 (s : Int), .int .i64 (p : Int), .int .i64 q, .int .i64 st, .string desc] 52) = W4 at hn4 hb4 ⊢
                    have hI4 := hI3.later hb4
                    have hown4 := own_old hown3 (Old.of_below hb4)
                    have e0 : W4.cell? ⟨W3.heap.size, 0, none⟩ = some (.int .i64 (e : Int)) := by simp [World.cell?, hn4]
                    have e1 : W4.cell? ⟨W3.heap.size, 1, none⟩ = some (.int .i64 (s : Int)) := by simp [World.cell?, hn4]
                    have e2 : W4.cell? ⟨W3.heap.size, 2, none⟩ = some (.int .i64 (p : Int)) := by simp [World.cell?, hn4]
                    have e3 : W4.cell? ⟨W3.heap.size, 3, none⟩ = some (.int .i64 q) := by simp [World.cell?, hn4]
                    have e4 : W4.cell? ⟨W3.heap.size, 4, none⟩ = some (.int .i64 st) := by simp [World.cell?, hn4]
                    have e5 : W4.cell? ⟨W3.heap.size, 5, none⟩ = some (.string desc) := by simp [World.cell?, hn4]
                    clear hn4
                    have hbz := hI4.below.size
                    have HI4 : Hid (Inv w W4 Mo B 3 E v mo3 (putE ⟨e, s, p, q, st, desc⟩ T)) := hI4
                    have HO4 : Hid (W4.ownsRow w.heap.size 52 6 (.slice (some ⟨g', 0, none⟩) T.length cp) T.length (T.flatMap Ent.cells)) := hown4
                    have HN2 : Hid (NoTwice T) := HT2.out.one
                    clear hI4 hown3 hI3 hO3 hb4
                    obtain ⟨z0, z1, z2, z3, z4, z5, zf⟩ := row_cells hown4 hx
                    clear hown4
                    obtain ⟨hj1, hj2, hj3⟩ := HJ.out
                    have g1 : (n : Int) ≤ 1024 := by omega
                    have g2 : (j : Int) < (n : Int) := by omega
                    go_wp2_with fail
                    have hT5 := St.set (x := ⟨e, s, p, q, st, desc⟩) HI4.out HO4.out HN2.out hf
                    go_roundg (n - (j + 1))
                    case measure => omega
                    case rel => exact ⟨j + 1, putE ⟨e, s, p, q, st, desc⟩ T, _, cp, by omega, rfl, by rw [put_set (x := ⟨e, s, p, q, st, desc⟩) hf, List.length_set]; omega, by rw [put_set (x := ⟨e, s, p, q, st, desc⟩) hf, List.length_set], by go_num, hT5⟩
        · have hjn : j = n := by omega
          subst hjn
          obtain ⟨mo1, hI1⟩ := hT.inv
          obtain ⟨gv, cv, rfl, hgv⟩ := hI1.slice
          have HGV : Hid (∀ i, i < 3 → wr.cell? ⟨gv, i, none⟩ = some (.pointer (some ⟨E i, 0, none⟩))) := hgv
          have m0 : wr.cell? ⟨Mo, 0, none⟩ = some (.slice (some ⟨gv, 0, none⟩) 3 cv) := by simp [World.cell?, hI1.model]
          have m1 : wr.cell? ⟨Mo, 1, none⟩ = some (.map (some B)) := by simp [World.cell?, hI1.model]
          have hlen := len_ref hI1.byRef
          obtain ⟨wz, hwz⟩ : ∃ wz, wz = wr := ⟨_, rfl⟩
          rw [← hwz] at hT hI1 HGV m0 m1 hlen
          rw [← hwz]
          have HT : Hid (St w wz Mo B E (.slice (some ⟨gv, 0, none⟩) 3 cv) ao cp T) := hT
          have HI : Hid (Inv w wz Mo B 3 E (.slice (some ⟨gv, 0, none⟩) 3 cv) mo1 T) := hI1
          have HTl : Hid (T.length ≤ 1024) := by unfold Hid; omega
          clear hwz hgv hT hI1 HS HR HA
          have M0 : Hid (wz.cell? ⟨Mo, 0, none⟩ = some (.slice (some ⟨gv, 0, none⟩) 3 cv)) := m0
          have M1 : Hid (wz.cell? ⟨Mo, 1, none⟩ = some (.map (some B))) := m1
          go_upto_if 173 with fail
          go_cut [2] (fun s2 wx => wx = wz)
          case first =>
            go_wp2_with fail
            go_meet
            exact rfl
          case rest =>
            rw [hcut]
            clear hcut hlen m0 m1
            apply_assumption
            exact after47 HT HI HTl HGV M0 M1
end
end Go.Proofs.Ybulkbwfg
