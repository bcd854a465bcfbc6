/-
  The walk of 'LawS3634CKeep' (function 5).
-/
import Derived.Test.YbulkbwfuKeepTexts
namespace Go.Proofs.Ybulkbwfu
open Go.RowKit Go.Proofs

/-- What is owned stays owned where its block is none of those that turned. -/
theorem ownsRow_far {w w' : World} {B n : Nat} {e : TypeId} {size : Nat} {v : Value} {xs : List Value} (h : w.ownsRow B e size v n xs) (hb : ∀ b, B ≤ b → b < w.heap.size → w'.heap[b]? = w.heap[b]?) : w'.ownsRow B e size v n xs := by
  refine ⟨h.1, ?_⟩
  rcases h.2 with h2 | ⟨g, cap, cur, hv, hg, hh, r⟩
  · exact Or.inl h2
  · refine Or.inr ⟨g, cap, cur, hv, hg, ?_, r⟩
    obtain ⟨hlt, _⟩ := Array.getElem?_eq_some_iff.1 hh
    rw [hb g hg hlt]
    exact hh

/-- The bytes that a value owns, one by one. -/
theorem own_at {w : World} {B n cp : Nat} {ao : Option Addr} {U : List Int} (h : w.ownsRow B 5 1 (.slice ao n cp) n (U.map (Value.int .u8))) (hn : 0 < n) : ∃ g, ao = some ⟨g, 0, none⟩ ∧ ∀ i, i < n → w.cell? ⟨g, i, none⟩ = some (.int .u8 (U.getD i 0)) := by
  have hl : U.length = n := by simpa using h.1
  have h2 := h.2
  rcases h2 with ⟨_, h0⟩ | ⟨g, cap, cur, hv, _⟩
  · omega
  · rw [Value.slice.injEq] at hv
    obtain ⟨rfl, _, _⟩ := hv
    refine ⟨g, rfl, fun i hi => ?_⟩
    have := h.cells (g := g) rfl i (.int .u8 (U.getD i 0)) (by simp [List.getD, show i < U.length by omega])
    rw [Addr.add_lit, Nat.zero_add] at this
    exact this

/-- The world at the second loop: the spans are laid; the wanted text grows. -/
structure Want (wz wx : World) (D : Data) (n : Nat) (L : List Int) (t : Nat) (ao : Option Addr) (m cp : Nat) : Prop where
  own : wx.ownsRow wz.heap.size 5 1 (.slice ao m cp) m ((D.upto n L t).map (Value.int .u8))
  below : Below wz.heap.size wz wx
  len : m = D.pos n t

theorem want_step {wz wr w3 : World} {D : Data} {n t m cp cp' tot : Nat} {L : List Int} {ao ao' : Option Addr} (h : Want wz wr D n L t ao m cp) (hb : Below wz.heap.size wr w3) (htot : tot = m + (D.hi n t - D.lo n t))
    (hown : w3.ownsRow wz.heap.size 5 1 (.slice ao' tot cp') tot ((D.upto n L t).map (Value.int .u8) ++ (D.piece n L t).map (Value.int .u8))) : Want wz w3 D n L (t + 1) ao' tot cp' := by
  refine ⟨?_, h.below.trans hb, by rw [htot, h.len]; rfl⟩
  have e : (D.upto n L (t + 1)).map (Value.int .u8) = (D.upto n L t).map (Value.int .u8) ++ (D.piece n L t).map (Value.int .u8) := by
    show (D.upto n L t ++ D.piece n L t).map _ = _
    rw [List.map_append]
  rw [e]
  exact hown

set_option maxHeartbeats 1000000 in
set_option maxRecDepth 100000 in
theorem keep_main (a0 : Option Addr) (n cap : Nat) (L : List Int) (a1 : Option Addr) (k kc mb mo : Nat) (D : Data) (cl : Bool) (la fi : Int) (w : World) (hn : n ≤ 4096) (hk : k ≤ 512) (hL : L.length = n)
    (hsrc : 0 < n → ∃ ad, a0 = some ad ∧ ∀ i, i < n → w.cell? (ad.add i) = some (.int .u8 (L.getD i 0)))
    (ha1 : 0 < k → a1 = some ⟨mb, mo, none⟩)
    (hD : ∀ i, i < k → w.cell? ⟨mb, mo + i * 6, none⟩ = some (.int .u16 (D.A i)) ∧ w.cell? ⟨mb, mo + i * 6 + 1, none⟩ = some (.int .u16 (D.B i)) ∧ w.cell? ⟨mb, mo + i * 6 + 2, none⟩ = some (.int .i64 (D.seq i)) ∧
      w.cell? ⟨mb, mo + i * 6 + 3, none⟩ = some (.int .i64 (D.ord i)) ∧ w.cell? ⟨mb, mo + i * 6 + 4, none⟩ = some (.string (D.user i)) ∧ w.cell? ⟨mb, mo + i * 6 + 5, none⟩ = some (.bool (D.fin i)))
    (hAB : ∀ i, i < k → D.A i ≤ 65535 ∧ D.B i ≤ 65535) :
    Calls Yba.prog 5 #[.slice a0 n cap, .slice a1 k kc, .bool cl, .int .i64 la, .int .i64 fi] w fun e w' => e = .returned (.bool true) ∧ Below w.heap.size w w' := by
  have hmk := make_bytes n (by omega)
  have hm1 := mk_arrs k hk
  have hm2 := mk_spans k hk
  have HK : Hid (0 < n → ∃ ad, a0 = some ad ∧ ∀ i, i < n → w.cell? (ad.add i) = some (.int .u8 (L.getD i 0))) := hsrc
  have HD : Hid (∀ i, i < k → w.cell? ⟨mb, mo + i * 6, none⟩ = some (.int .u16 (D.A i)) ∧ w.cell? ⟨mb, mo + i * 6 + 1, none⟩ = some (.int .u16 (D.B i)) ∧ w.cell? ⟨mb, mo + i * 6 + 2, none⟩ = some (.int .i64 (D.seq i)) ∧
      w.cell? ⟨mb, mo + i * 6 + 3, none⟩ = some (.int .i64 (D.ord i)) ∧ w.cell? ⟨mb, mo + i * 6 + 4, none⟩ = some (.string (D.user i)) ∧ w.cell? ⟨mb, mo + i * 6 + 5, none⟩ = some (.bool (D.fin i))) := hD
  have HAB : Hid (∀ i, i < k → D.A i ≤ 65535 ∧ D.B i ≤ 65535) := hAB
  clear hsrc hD hAB
  have g1 : ¬ (4096 : Int) < (n : Int) := by omega
  have g2 : ¬ (512 : Int) < (k : Int) := by omega
  go_enter Yba.func5, Yba.ntmps5
  go_wp2_with (first | (refine copy_full _ rfl (.tmp 36) (.tmp 37) rfl w.heap.size n rfl a0 cap rfl (heap_alloc_new _ _) L hL (fun h0 => by obtain ⟨ad, e, hc⟩ := HK.out h0; exact ⟨ad, e, fun i hi => cell_later ((Below.refl _ _).alloc (Nat.le_refl _) _) (hc i hi)⟩) ?_; intro w1 hg1 hb1))
  have hs1 : w.heap.size < w1.heap.size := by have := hb1.size; simp at this; omega
  have hst := keep_start (k := k) (n := n) (cl := cl) (la := la) (fi := fi) (D := D) hg1 (((Below.refl _ _).alloc (Nat.le_refl _) _).trans hb1) hs1
  clear hg1 hb1 hmk hm1 hm2
  clear hs1
  generalize w1.heap.size + 1 + 1 = P at hst ⊢
  generalize w1.heap.size + 1 = M at hst ⊢
  generalize w1.heap.size = R at hst ⊢
  -- the first loop: the messages are laid
  go_loopg [57] k (fun g i wr => ∃ j : Nat, j ≤ k ∧ g = k - j ∧ i = .int .i64 j ∧ Keep w wr w.heap.size R M P k L cl la fi (.slice (some ⟨w.heap.size, 0, none⟩) n n) (fillF D n j) (fillG D n j))
  case atStart => exact ⟨0, Nat.zero_le _, rfl, rfl, hst⟩
  case round =>
    clear hst
    obtain ⟨j, hj, rfl, rfl, hK⟩ := hrel
    by_cases hlt : j < k
    · obtain rfl := ha1 (by omega)
      obtain ⟨d0, d1, d2, d3, d4, d5⟩ := HD.out j hlt
      have hab := HAB.out j hlt
      replace d0 := cell_later hK.below d0
      replace d1 := cell_later hK.below d1
      replace d2 := cell_later hK.below d2
      replace d3 := cell_later hK.below d3
      replace d4 := cell_later hK.below d4
      replace d5 := cell_later hK.below d5
      have hz := hK.lt
      have y0 : M < wr.heap.size := hK.msgs.lt
      have x0 : R < wr.heap.size := Nat.lt_trans hK.hRM y0
      have e1 : R ≠ M := Nat.ne_of_lt hK.hRM
      have e2 : M ≠ P := Nat.ne_of_lt hK.hMP
      have e3 : R ≠ P := Nat.ne_of_lt (Nat.lt_trans hK.hRM hK.hMP)
      have hA3 : ∀ (W : World) o1 o2 o3 b x, b < W.heap.size → (((W.alloc o1).alloc o2).alloc o3).cell? ⟨b, x, none⟩ = W.cell? ⟨b, x, none⟩ := fun W o1 o2 o3 b x h => (below3 W o1 o2 o3).cell (p := ⟨b, x, none⟩) h
      have hF3 : ∀ (W : World) o1 o2 o3 b x, b < W.heap.size → (((W.alloc o1).alloc o2).alloc o3).frozen? ⟨b, x, none⟩ = W.frozen? ⟨b, x, none⟩ := fun W o1 o2 o3 b x h => (below3 W o1 o2 o3).frozen (p := ⟨b, x, none⟩) h
      have m0 := row8_cell hK.msgs j 0 hlt (by omega)
      have m1 := row8_cell hK.msgs j 1 hlt (by omega)
      have m2 := row8_cell hK.msgs j 2 hlt (by omega)
      have m3 := row8_cell hK.msgs j 3 hlt (by omega)
      have m4 := row8_cell hK.msgs j 4 hlt (by omega)
      have m5 := row8_cell hK.msgs j 5 hlt (by omega)
      have m6 := row8_cell hK.msgs j 6 hlt (by omega)
      have m7 := row8_cell hK.msgs j 7 hlt (by omega)
      rw [Nat.add_zero] at m0
      have mf := hK.msgs.frozen
      have s0 := row2_cell hK.spans j 0 hlt (by omega)
      have s1 := row2_cell hK.spans j 1 hlt (by omega)
      rw [Nat.add_zero] at s0
      have sf := hK.spans.frozen
      have r2 := hK.runCell.2.2.1
      go_wp2_with fail
      rw [show ((n : Int)) = ((n : Nat) : Int) from rfl]
      refine (span_any n (D.A j) (D.B j) hn hab.1 hab.2 _).mono ?_
      rintro e w2 ⟨rfl, rfl⟩
      go_wp2_with fail
      go_region
      all_goals go_wp2_with fail
      all_goals
        go_roundg (k - (j + 1))
        case measure => omega
        case rel => exact ⟨j + 1, by omega, rfl, by go_num, keep_fill hK _ _ _⟩
    · have hjk : j = k := by omega
      subst hjk
      have HP : Hid (∀ t, t ≤ j → D.pos n t ≤ 2097152) := fun t ht => by
        have h1 := D.pos_le n t
        have h2 : t * n ≤ 512 * 4096 := Nat.mul_le_mul (by omega) hn
        omega
      have hKz : Keep w wr w.heap.size R M P j L cl la fi (.slice (some ⟨w.heap.size, 0, none⟩) n n) (turnF D n 0) (fun i c => spanV D n i c) :=
        hK.congr (fun i c hi _ => by unfold fillF turnF; rw [if_pos hi, if_neg (by omega)]) (fun i c hi _ => by unfold fillG; rw [if_pos hi])
      clear hK
      obtain ⟨wz, hwz⟩ : ∃ wz, wz = wr := ⟨_, rfl⟩
      subst hwz
      go_wp2_with fail
      -- the second loop: the wanted text
      go_loopg [17, 95] j (fun g v i wx => ∃ t : Nat, t ≤ j ∧ g = j - t ∧ i = .int .i64 t ∧ ∃ ao m cp, v = .slice ao m cp ∧ Want wz wx D n L t ao m cp)
      case atStart => exact ⟨0, Nat.zero_le _, rfl, rfl, none, 0, 0, rfl, World.ownsRow_nil _ _ _ _, Below.refl _ _, rfl⟩
      case round =>
        obtain ⟨t, ht, rfl, rfl, ao, m, cp, rfl, hT⟩ := hrel
        by_cases htk : t < j
        · have hKw := hKz.keep hT.below hKz.lt
          have p0 := row2_cell hKw.spans t 0 htk (by omega)
          have p1 := row2_cell hKw.spans t 1 htk (by omega)
          rw [Nat.add_zero] at p0
          have fe0 : spanV D n t 0 = .int .i64 (D.lo n t : Int) := rfl
          have fe1 : spanV D n t 1 = .int .i64 (D.hi n t : Int) := rfl
          rw [fe0] at p0
          rw [fe1] at p1
          obtain ⟨b1, b2⟩ := D.bounds n t
          have b3 := HP.out t ht
          have b4 := HP.out (t + 1) (by omega)
          have hpl := D.piece_length hL t
          have hmb : m ≤ 2097152 := by rw [hT.len]; exact b3
          obtain ⟨tot, htot⟩ : ∃ tot, tot = m + (D.hi n t - D.lo n t) := ⟨_, rfl⟩
          have htb : tot ≤ 2097152 := by
            have e : D.pos n (t + 1) = D.pos n t + (D.hi n t - D.lo n t) := rfl
            have := hT.len
            omega
          have HT : Hid (tot = m + (D.hi n t - D.lo n t)) := htot
          clear htot b3 b4
          obtain ⟨x, hx⟩ : ∃ x, x = D.lo n t := ⟨_, rfl⟩
          obtain ⟨y, hy⟩ : ∃ y, y = D.hi n t := ⟨_, rfl⟩
          rw [← hx, ← hy] at b1
          rw [← hy] at b2
          rw [← hx] at p0
          rw [← hy] at p1
          rw [← hx, ← hy] at hpl
          have HT' : Hid (tot = m + (y - x)) := by unfold Hid; rw [hx, hy]; exact HT.out
          have HX : Hid (x = D.lo n t) := hx
          have HY : Hid (y = D.hi n t) := hy
          have HPL : Hid ((D.piece n L t).length = y - x) := hpl
          clear hx hy hpl fe0 fe1
          have z1 : (0 : Int) ≤ (x : Int) := by omega
          have z2 : (x : Int) ≤ (y : Int) := by omega
          have z3 : (y : Int) ≤ (n : Int) := by omega
          have hbz := hT.below.size
          have hpa0 := piece_at' hKw.drew hL t HX.out HY.out
          by_cases hne : n = x
          · subst hne
            rw [if_pos rfl] at hpa0
            have e0 : y - n = 0 := by omega
            have hpl0 := HPL.out
            have htt0 := HT'.out
            rw [e0] at hpl0 htt0 hpa0
            have hpa := hpa0
            have HPL0 : Hid ((D.piece n L t).length = 0) := hpl0
            have HT0 : Hid (tot = m + 0) := htt0
            clear hpa0 hpl0 htt0 e0 HPL HT'
            go_wp2_with fail
            go_region_law (refine step_piece _ rfl (.tmp 98) (.tmp 110) rfl wz.heap.size ao m cp _ (by rfl) hT.own.drew _ 0 _ (D.piece n L t) (by rfl) HPL0.out hpa tot HT0.out (by omega) hbz ?_; intro ao' cp' w3 hown3 hsome3 hgrow3)
            all_goals
              have hb3 : Below wz.heap.size wr w3 := ((Below.refl _ _).drew).grown hgrow3 hbz (fun b hb => (hT.own.lt b hb).1)
              clear hgrow3 hsome3 p0 p1 z1 z2 z3 hpa
              go_wp2_with fail
              go_roundg (j - (t + 1))
              case measure => omega
              case rel => exact ⟨t + 1, by omega, rfl, by go_num, ao', tot, cp', rfl, want_step hT hb3 HT.out hown3⟩
          · rw [if_neg hne] at hpa0
            have hpa := hpa0
            clear hpa0
            go_wp2_with fail
            go_region_law (refine step_piece _ rfl (.tmp 98) (.tmp 110) rfl wz.heap.size ao m cp _ (by rfl) hT.own.drew _ (y - x) _ (D.piece n L t) (by rfl) HPL.out hpa tot HT'.out (by omega) hbz ?_; intro ao' cp' w3 hown3 hsome3 hgrow3)
            all_goals
              have hb3 : Below wz.heap.size wr w3 := ((Below.refl _ _).drew).grown hgrow3 hbz (fun b hb => (hT.own.lt b hb).1)
              clear hgrow3 hsome3 p0 p1 z1 z2 z3 hpa
              go_wp2_with fail
              go_roundg (j - (t + 1))
              case measure => omega
              case rel => exact ⟨t + 1, by omega, rfl, by go_num, ao', tot, cp', rfl, want_step hT hb3 HT.out hown3⟩
        · have htj : t = j := by omega
          subst htj
          have hKw := hKz.keep hT.below hKz.lt
          go_wp2_with fail
          refine (texts_any w _ w.heap.size R M P n t L cl la fi D _ hn hk hL hKw).mono ?_
          rintro ex wy ⟨rfl, ao2, cp2, hK2, hown2, hsz2, hfar2⟩
          have q1 := hKz.hRM
          have q2 := hKz.hMP
          have q3 := hKz.lt
          have hown1 := ownsRow_far (w' := wy) hT.own (fun b hb1 hb2 => hfar2 b hb2 (by omega) (by omega))
          rw [← hT.len] at hK2 hown2
          have hmb : m ≤ 2097152 := by rw [hT.len]; exact HP.out t (Nat.le_refl _)
          have HO1 : Hid (0 < m → ∃ g, ao = some ⟨g, 0, none⟩ ∧ ∀ i, i < m → wy.cell? ⟨g, i, none⟩ = some (.int .u8 ((D.upto n L t).getD i 0))) := fun h0 => own_at hown1 h0
          have HO2 : Hid (0 < m → ∃ g, ao2 = some ⟨g, 0, none⟩ ∧ ∀ i, i < m → wy.cell? ⟨g, i, none⟩ = some (.int .u8 ((D.upto n L t).getD i 0))) := fun h0 => own_at hown2 h0
          have HM : Hid (m = D.pos n t) := hT.len
          clear hown1 hown2 hsz2 hfar2 hT hKw q1 q2 q3 hKz
          have r3 := hK2.runCell.2.2.2.1
          go_wp2_with fail
          clear r3
          -- the third loop: the texts are the wanted ones
          go_loopg [125] m (fun g i wx => ∃ s : Nat, s ≤ m ∧ g = m - s ∧ i = .int .i64 s ∧ Below wy.heap.size wy wx)
          case atStart => exact ⟨0, Nat.zero_le _, rfl, rfl, Below.refl _ _⟩
          case round =>
            obtain ⟨s, hs, rfl, rfl, hB3⟩ := hrel
            by_cases hsm : s < m
            · obtain ⟨g1', rfl, hc1⟩ := HO1.out (by omega)
              obtain ⟨g2', rfl, hc2⟩ := HO2.out (by omega)
              have c1 := cell_later hB3 (hc1 s hsm)
              have c2 := cell_later hB3 (hc2 s hsm)
              have r3 := cell_later hB3 hK2.runCell.2.2.2.1
              clear hc1 hc2
              go_wp2_with fail
              go_quiet (fail)
              clear c1 c2 r3
              go_wp2_with fail
              go_roundg (m - (s + 1))
              case measure => omega
              case rel => exact ⟨s + 1, by omega, rfl, by go_num, below_drewN hB3 _⟩
            · have hsm' : s = m := by omega
              subst hsm'
              have hK3 := hK2.keep hB3 hK2.lt
              have r2 := hK3.runCell.2.2.1
              go_wp2_with fail
              clear r2
              -- the fourth loop: every message has its own text and kept its fields
              go_loopg [20, 151] t (fun g v i wx => ∃ e : Nat, e ≤ t ∧ g = t - e ∧ v = .int .i64 (D.pos n e : Int) ∧ i = .int .i64 e ∧ Below wy.heap.size wy wx)
              case atStart => exact ⟨0, Nat.zero_le _, rfl, rfl, rfl, hB3⟩
              case round =>
                obtain ⟨e, he, rfl, rfl, rfl, hB4⟩ := hrel
                have hK4 := hK2.keep hB4 hK2.lt
                by_cases hek : e < t
                · obtain rfl := ha1 (by omega)
                  obtain ⟨d0, d1, d2, d3, d4, d5⟩ := HD.out e hek
                  replace d2 := cell_later hK4.below d2
                  replace d3 := cell_later hK4.below d3
                  replace d4 := cell_later hK4.below d4
                  replace d5 := cell_later hK4.below d5
                  clear d0 d1
                  have tf : ∀ c, turnF D n t e c = D.cell (posOf D n) e c := fun c => if_pos hek
                  have m0 := row8_cell hK4.msgs e 0 hek (by omega)
                  have m1 := row8_cell hK4.msgs e 1 hek (by omega)
                  have m2 := row8_cell hK4.msgs e 2 hek (by omega)
                  have m3 := row8_cell hK4.msgs e 3 hek (by omega)
                  have m4 := row8_cell hK4.msgs e 4 hek (by omega)
                  have m5 := row8_cell hK4.msgs e 5 hek (by omega)
                  have m6 := row8_cell hK4.msgs e 6 hek (by omega)
                  have m7 := row8_cell hK4.msgs e 7 hek (by omega)
                  rw [Nat.add_zero] at m0
                  rw [tf] at m0 m1 m2 m3 m4 m5 m6 m7
                  have v0 : D.cell (posOf D n) e 0 = .int .i64 (D.seq e) := rfl
                  have v1 : D.cell (posOf D n) e 1 = .int .i64 0 := rfl
                  have v2 : D.cell (posOf D n) e 2 = .bool false := rfl
                  have v3 : D.cell (posOf D n) e 3 = .bool (D.fin e) := rfl
                  have v4 : D.cell (posOf D n) e 4 = .string (D.user e) := rfl
                  have v5 : D.cell (posOf D n) e 5 = .int .i64 (D.pos n e : Int) := rfl
                  have v6 : D.cell (posOf D n) e 6 = .int .i64 (D.pos n (e + 1) : Int) := rfl
                  have v7 : D.cell (posOf D n) e 7 = .int .i64 (D.ord e) := rfl
                  rw [v0] at m0
                  rw [v1] at m1
                  rw [v2] at m2
                  rw [v3] at m3
                  rw [v4] at m4
                  rw [v5] at m5
                  rw [v6] at m6
                  rw [v7] at m7
                  have p0 := row2_cell hK4.spans e 0 hek (by omega)
                  have p1 := row2_cell hK4.spans e 1 hek (by omega)
                  rw [Nat.add_zero] at p0
                  have fe0 : spanV D n e 0 = .int .i64 (D.lo n e : Int) := rfl
                  have fe1 : spanV D n e 1 = .int .i64 (D.hi n e : Int) := rfl
                  rw [fe0] at p0
                  rw [fe1] at p1
                  clear v0 v1 v2 v3 v4 v5 v6 v7 fe0 fe1 tf
                  obtain ⟨b1, b2⟩ := D.bounds n e
                  have hp1 := HP.out e he
                  have hp2 := HP.out (e + 1) (by omega)
                  have hpe : D.pos n (e + 1) = D.pos n e + (D.hi n e - D.lo n e) := rfl
                  have hpz : (D.pos n e : Int) + ((D.hi n e : Int) - (D.lo n e : Int)) = (D.pos n (e + 1) : Int) := by omega
                  have r2 := hK4.runCell.2.2.1
                  generalize hpe2 : D.pos n (e + 1) = pe' at *
                  have HE : Hid (D.pos n (e + 1) = pe') := hpe2
                  clear hpe2
                  generalize D.pos n e = pe at *
                  generalize D.hi n e = y at *
                  generalize D.lo n e = x at *
                  clear hpe
                  have g3 : (y : Int) - (x : Int) ≤ 4096 := by omega
                  have g4 : (0 : Int) ≤ (y : Int) - (x : Int) := by omega
                  go_wp2_with fail
                  clear r2 m0 m1 m2 m3 m4 m5 m6 m7
                  have ha := heap_alloc_new wr (.cells #[.int .i64 (D.seq e), .int .i64 0, .bool false, .bool (D.fin e), .string (D.user e), .int .i64 (pe : Int), .int .i64 (pe' : Int), .int .i64 (D.ord e)] 53)
                  have hb4 : Below wr.heap.size wr (wr.alloc (.cells #[.int .i64 (D.seq e), .int .i64 0, .bool false, .bool (D.fin e), .string (D.user e), .int .i64 (pe : Int), .int .i64 (pe' : Int), .int .i64 (D.ord e)] 53)) := (Below.refl _ _).alloc (Nat.le_refl _) _
                  generalize wr.alloc (.cells #[.int .i64 (D.seq e), .int .i64 0, .bool false, .bool (D.fin e), .string (D.user e), .int .i64 (pe : Int), .int .i64 (pe' : Int), .int .i64 (D.ord e)] 53) = w4 at ha hb4 ⊢
                  replace p0 := cell_later hb4 p0
                  replace p1 := cell_later hb4 p1
                  replace d2 := cell_later hb4 d2
                  replace d3 := cell_later hb4 d3
                  replace d4 := cell_later hb4 d4
                  replace d5 := cell_later hb4 d5
                  have n0 : w4.cell? ⟨wr.heap.size, 0, none⟩ = some (.int .i64 (D.seq e)) := by simp [World.cell?, ha]
                  have n1 : w4.cell? ⟨wr.heap.size, 1, none⟩ = some (.int .i64 0) := by simp [World.cell?, ha]
                  have n2 : w4.cell? ⟨wr.heap.size, 2, none⟩ = some (.bool false) := by simp [World.cell?, ha]
                  have n3 : w4.cell? ⟨wr.heap.size, 3, none⟩ = some (.bool (D.fin e)) := by simp [World.cell?, ha]
                  have n4 : w4.cell? ⟨wr.heap.size, 4, none⟩ = some (.string (D.user e)) := by simp [World.cell?, ha]
                  have n5 : w4.cell? ⟨wr.heap.size, 5, none⟩ = some (.int .i64 (pe : Int)) := by simp [World.cell?, ha]
                  have n6 : w4.cell? ⟨wr.heap.size, 6, none⟩ = some (.int .i64 (pe' : Int)) := by simp [World.cell?, ha]
                  have n7 : w4.cell? ⟨wr.heap.size, 7, none⟩ = some (.int .i64 (D.ord e)) := by simp [World.cell?, ha]
                  have hB6 := hB4.trans (hb4.mono hB4.size)
                  clear ha hb4
                  generalize wr.heap.size = N at *
                  go_quiet (fail)
                  go_wp2_with fail
                  clear p0 p1 n5 n6
                  go_quiet (fail)
                  clear n0 n1 n2 n3 n4 n7 d2 d3 d4 d5
                  go_wp2_with fail
                  go_roundg (t - (e + 1))
                  case measure => omega
                  case rel => exact ⟨e + 1, by omega, rfl, by rw [HE.out], by go_num, below_drewN hB6 _⟩
                · have hek' : e = t := by omega
                  subst hek'
                  go_wp2_with fail
                  -- the fifth loop: the text given is as it was
                  go_loopg [244] n (fun g i wx => ∃ f : Nat, f ≤ n ∧ g = n - f ∧ i = .int .i64 f ∧ Below wy.heap.size wy wx)
                  case atStart => exact ⟨0, Nat.zero_le _, rfl, rfl, hB4⟩
                  case round =>
                    obtain ⟨f, hf, rfl, rfl, hB5⟩ := hrel
                    have hK5 := hK2.keep hB5 hK2.lt
                    by_cases hfn : f < n
                    · obtain ⟨ad, rfl, hc⟩ := HK.out (by omega)
                      have c1 := cell_later hK5.below (hc f hfn)
                      have c2 := hK5.oldCell f (by omega)
                      clear hc
                      go_wp2_with fail
                      go_quiet (fail)
                      clear c1 c2
                      go_wp2_with fail
                      go_roundg (n - (f + 1))
                      case measure => omega
                      case rel => exact ⟨f + 1, by omega, rfl, by go_num, below_drewN hB5 _⟩
                    · have hfn' : f = n := by omega
                      subst hfn'
                      obtain ⟨r0, r1, _⟩ := hK5.runCell
                      go_wp2_with fail
                      go_ret
                      exact ⟨rfl, hK5.below⟩

set_option maxHeartbeats 400000 in
set_option maxRecDepth 100000 in
theorem keep_long (a0 : Option Addr) (n cap : Nat) (a1 : Option Addr) (k kc : Nat) (cl : Bool) (la fi : Int) (w : World) (h : 4096 < n ∨ 512 < k) :
    Calls Yba.prog 5 #[.slice a0 n cap, .slice a1 k kc, .bool cl, .int .i64 la, .int .i64 fi] w fun e w' => e = .returned (.bool true) ∧ Below w.heap.size w w' := by
  by_cases h1 : 4096 < n
  · have g1 : (4096 : Int) < (n : Int) := by omega
    go_enter Yba.func5, Yba.ntmps5
    go_wp2
    go_ret
    exact ⟨rfl, Below.refl _ _⟩
  · have g1 : ¬ (4096 : Int) < (n : Int) := by omega
    have g2 : (512 : Int) < (k : Int) := by omega
    go_enter Yba.func5, Yba.ntmps5
    go_wp2
    go_ret
    exact ⟨rfl, Below.refl _ _⟩
end Go.Proofs.Ybulkbwfu
