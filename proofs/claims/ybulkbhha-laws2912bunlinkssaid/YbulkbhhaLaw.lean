/- THE LAW's WALK. -/
import Derived.Test.YbulkbhhaApp
namespace Go.Proofs.Ybulkbhha
open Go.RowKit

set_option maxHeartbeats 4000000 in
set_option maxRecDepth 100000 in
theorem law_walk (a0 a1 a2 a3 : Int) (bh : Bool) (w : World) (n k : Nat)
   (e0 : wrap64 ((wrap64 a0).tmod 300 + 1) = (n : Int)) (e1 : (wrap64 a1).tmod (n : Int) = (k : Int)) (hn : 0 < n) (hn3 : n ≤ 300) (hk : k < n) :
    Calls Yba.prog 3 #[.int .u16 a0, .int .u16 a1, .int .u64 a2, .int .i64 a3, .bool bh] w fun e w' => e = .returned (.bool true) ∧ Below w.heap.size w w' := by
  have hne : ((n : Int) == 0) = false := beq_eq_false_iff_ne.2 (by omega)
  go_enter Yba.func3, Yba.ntmps3
  go_upto_region 3 with fail
  rw [e0]
  clear e0 e1 hne
  have hmm := @run_makeMap Yba.prog
  obtain ⟨Z, hz, hs, z7, z89, z90, z91⟩ := zero56
  have hz65 := zero65
  go_upto_if 49 with fail
  go_cut [15] from 49 to 73 (fun o wc => ∃ oB gq, o = (if bh then ptr oB else .pointer none) ∧ wc.heap.size = gq ∧ Ord w.heap.size (w.heap.size + 1) (w.heap.size + 1 + 1) oB gq (gq + 1) ∧
    Lay (w.heap.size + 1) (w.heap.size + 1 + 1) oB gq gq 0 bh (sQ bh (w.heap.size + 1 + 1) oB (gq + 1) a3 (bit a2) 0) wc ∧ Below w.heap.size w wc)
  case first =>
    cases bh
    · go_wp2_with fail
      go_meet
      case rel => exact ⟨w.heap.size, w.heap.size + 1 + 1 + 1, rfl, by simp, ⟨by omega, by omega, by omega, by omega, by omega, by omega, by omega, by omega⟩, start_f w Z a3 (bit a2) hs z89 z90 z91,
        ((((Kept.refl w (fun _ => False)).alloc _).alloc _).alloc _).below (Nat.le_refl _) (fun _ h => h.elim)⟩
    · go_wp2_with fail
      go_meet
      case rel => exact ⟨w.heap.size + 1 + 1 + 1, w.heap.size + 1 + 1 + 1 + 1, rfl, by simp, ⟨by omega, by omega, by omega, by omega, by omega, by omega, by omega, by omega⟩, start_t w Z a3 (bit a2) hs z89 z90 z91,
        (((((Kept.refl w (fun _ => False)).alloc _).alloc _).alloc _).alloc _).below (Nat.le_refl _) (fun _ h => h.elim)⟩
  case rest =>
    obtain ⟨oB, gq, hov, hgq, ho, hl, hbe⟩ := hcut
    have HOV := hide hov
    clear hov
    generalize hrB : w.heap.size + 1 + 1 = rB at *
    generalize htB : w.heap.size + 1 = tB at *
    generalize hB : w.heap.size = B at *
    obtain ⟨C, hC, hmk⟩ := make_qs n n (Nat.le_refl _) hn3
    have hl0 := lay_made hl (by have := ho.a; have := ho.b; omega) ho.d ho.b hgq C
    have hq0 : ∀ j, j < n → ∃ u, (wc.alloc (.cells C.toArray 61)).cell? ⟨gq, j, none⟩ = some u := fun j hj => by
      have := heap_alloc_new wc (.cells C.toArray 61)
      rw [hgq] at this
      refine ⟨C[j]'(by omega), ?_⟩
      simp only [World.cell?, this]
      simp [hC, hj]
    have hb0 : Below B w (wc.alloc (.cells C.toArray 61)) := hbe.trans (((Kept.refl wc (fun _ => False)).alloc _).below (by have := ho.g; have := ho.a; have := ho.b; omega) (fun _ h => h.elim))
    have hz0 : (wc.alloc (.cells C.toArray 61)).heap.size = gq + 1 + 3 * 0 := by simp [hgq]
    have HL := hide hl0
    have HQ := hide hq0
    have HBE := hide hb0
    have HZ := hide hz0
    have HO := hide ho
    have HB := hide hB
    clear hl hbe hl0 hq0 hb0 hz0 ho hB hrB htB hC z7 z89 z90 z91 hs hz hz65
    go_upto_region 15 with fail
    clear hmk
    clear hgq
    generalize wc.alloc (.cells C.toArray 61) = W0 at *
    generalize hS : gq + 1 = S at *
    have HS := hide hS
    clear hS
    have hz75 := zero75
    have hz88 := zero88
    go_wp2_with fail
    go_loopw [17] (fun t wr => ∃ i, i ≤ n ∧ t = .int .i64 (i : Nat) ∧ Lay tB rB oB gq S i bh (sQ bh rB oB S a3 (bit a2) i) wr ∧ wr.heap.size = S + 3 * i ∧ (∀ j, j < n → ∃ u, wr.cell? ⟨gq, j, none⟩ = some u) ∧ Below B w wr) (fun t _ => n - (intOf t).toNat)
    case atStart => exact ⟨0, by omega, rfl, HL.out, HZ.out, HQ.out, HBE.out⟩
    case round =>
      obtain ⟨i, hin, rfl, hl, hsz, hq, hbe⟩ := hrel
      have HLI := hide hl
      have HQI := hide hq
      have HBI := hide hbe
      clear hl hq hbe HL HQ HBE HZ
      by_cases hlt : i < n
      · have b0 : (0 : Int) ≤ (i : Int) := by omega
        have b1 : (i : Int) < (n : Int) := by omega
        have hbit := bit_any a2 i (by omega)
        obtain ⟨oa, ob, oc, od, oe, of, og, oh⟩ := HO.out
        go_upto_region 20 with fail
        rw [show S + 3 * i + 1 + 1 = S + 3 * i + 2 from rfl]
        change Code.wp _ _ _ _ (((wr.alloc (.map #[] 0)).alloc (.cells (ownA (S + 3 * i)) 75)).alloc (.cells (reqA (.int .u64 ((i : Int) + 1)) (S + 3 * i + 1) rB) 88))
        have hnd := node_new wr rB S i (.int .u64 ((i : Int) + 1)) hsz
        have hkx : Kept wr (((wr.alloc (.map #[] 0)).alloc (.cells (ownA (S + 3 * i)) 75)).alloc (.cells (reqA (.int .u64 ((i : Int) + 1)) (S + 3 * i + 1) rB) 88)) (fun _ => False) := (((Kept.refl wr _).alloc _).alloc _).alloc _
        generalize ((wr.alloc (.map #[] 0)).alloc (.cells (ownA (S + 3 * i)) 75)).alloc (.cells (reqA (.int .u64 ((i : Int) + 1)) (S + 3 * i + 1) rB) 88) = X at *
        have hup := upd_r X (S + 3 * i) (ptr (S + 3 * i + 2)) hnd.mp
        have hk1 : Kept wr { X with heap := X.heap.setIfInBounds (S + 3 * i) (.map (ents (ptr (S + 3 * i + 2)) false) 1) } (fun _ => False) := hkx.setObj (.inr (by omega)) _
        have hn1 := hnd.setM (ents (ptr (S + 3 * i + 2)) false) 1
        have x4 := hnd.w4
        obtain ⟨X1, hX1⟩ : ∃ X1, X1 = ({ X with heap := X.heap.setIfInBounds (S + 3 * i) (.map (ents (ptr (S + 3 * i + 2)) false) 1) } : World) := ⟨_, rfl⟩
        rw [← hX1] at hup hk1 hn1
        unfold ptr at hup
        have HN1 := hide hn1
        have HK1 := hide hk1
        clear hX1 hkx hnd hn1 hk1 hz75 hz88
        go_upto_region 21 with fail
        clear hup x4
        go_upto_if 98 with (first | (go_at_call 4; refine (hbit _).mono ?_; rintro e w' ⟨rfl, rfl⟩))
        go_cut [] from 98 to 102 (fun wd => Kept wr wd (fun _ => False) ∧ Node rB S i (.map (ents (ptr (S + 3 * i + 2)) (bit a2 i)) (clk (bit a2 i))) (.pointer none) wd)
        case first =>
          cases hb : bit a2 i
          · go_wp2_with fail
            go_meet
            case rel => exact ⟨HK1.out, by rw [hb]; exact HN1.out⟩
          · have hup2 := upd_x w' (S + 3 * i) (ptr (S + 3 * i + 2)) HN1.out.mp
            have x4 := HN1.out.w4
            go_wp2_with fail
            go_meet
            case rel => exact ⟨HK1.out.setObj (.inr (by omega)) _, by rw [hb]; exact HN1.out.setM _ _⟩
        case rest =>
          obtain ⟨hk2, hn2⟩ := hcut
          have hl2 := HLI.out.kept HO.out hk2 (fun _ h => h.elim)
          have hq2 : ∀ j, j < n → ∃ u, wc.cell? ⟨gq, j, none⟩ = some u := fun j hj => by
            obtain ⟨u, hu⟩ := HQI.out j hj
            exact ⟨u, (hk2.cell (p := ⟨gq, j, none⟩) (by show gq < _; omega) id).trans hu⟩
          obtain ⟨u, hu⟩ := hq2 i hlt
          have hfq : ∀ o, wc.frozen? ⟨gq, o, none⟩ = false := fun o => hl2.fr _ _ (by omega) (by omega)
          have hl3 := hl2.setQ HO.out (ptr (S + 3 * i + 2))
          have hn3' := hn2.far gq i (ptr (S + 3 * i + 2)) (by omega)
          have hk3 : Kept wr (wc.setCell ⟨gq, i, none⟩ (ptr (S + 3 * i + 2))) (fun g => g = gq) := (Kept.refl wr (fun g => g = gq)).trans hk2 (fun _ h => h.elim) |>.setCell (.inl rfl) _
          have hq3 : (wc.setCell ⟨gq, i, none⟩ (ptr (S + 3 * i + 2))).cell? ⟨gq, i, none⟩ = some (ptr (S + 3 * i + 2)) := World.cell?_setCell_same _ _ _ hu
          have hq4 : ∀ j, j < n → ∃ u, (wc.setCell ⟨gq, i, none⟩ (ptr (S + 3 * i + 2))).cell? ⟨gq, j, none⟩ = some u := fun j hj => by
            by_cases e : j = i
            · subst e; exact ⟨_, hq3⟩
            · obtain ⟨u', hu'⟩ := hq2 j hj
              exact ⟨u', (set_ne wc _ _ _ _ _ (.inr (fun h => e h.symm))).trans hu'⟩
          have HL3 := hide hl3
          have HN3' := hide hn3'
          have HK3 := hide hk3
          have HQ3 := hide hq3
          have HQ4 := hide hq4
          clear hk2 hn2 hl2 hq2 hl3 hn3' hk3 hq3 hq4 HK1 HN1
          go_upto_region 24 with fail
          change Code.wp _ _ _ _ (wc.setCell ⟨gq, i, none⟩ (ptr (S + 3 * i + 2)))
          generalize wc.setCell ⟨gq, i, none⟩ (ptr (S + 3 * i + 2)) = W3 at *
          clear hu hfq
          go_upto_if 108 with fail
          · by_cases hi0 : i = 0
            · subst hi0
              go_wp2_with fail
              go_roundw
              case measure => simp [intOf]; omega
              case rel => exact ⟨0 + 1, by omega, by go_num, HL3.out.join HN3'.out HQ3.out _ rfl (fun j hj => absurd hj (Nat.not_lt_zero _)) (fun j hj => absurd hj (Nat.not_lt_zero _)) (fun j hj => absurd hj (Nat.not_lt_zero _)) (fun j hj => absurd hj (Nat.not_lt_zero _)) (fun j hj => absurd hj (Nat.not_lt_zero _)) rfl rfl rfl rfl rfl, by have := HN3'.out.size; omega, HQ4.out, HBI.out.trans (HK3.out.below (by omega) (fun g hg => by omega))⟩
            · have hj : i = i - 1 + 1 := by omega
              have hgt : decide ((0 : Int) < (i : Int)) = true := decide_eq_true (by omega)
              have hpos : 0 < i := by omega
              have c1 := HL3.out.q (i - 1) (by omega)
              have c2 := HN3'.out.n20
              have c3 := HL3.out.n21 (i - 1) (by omega)
              have f1 : ∀ o, W3.frozen? ⟨S + 3 * i + 2, o, none⟩ = false := fun o => HN3'.out.fr _ _ (by omega) (by omega)
              have f2 : ∀ o, W3.frozen? ⟨S + 3 * (i - 1) + 2, o, none⟩ = false := fun o => HL3.out.fr _ _ (by omega) (by omega)
              have d1 : (W3.setCell ⟨S + 3 * i + 2, 20, none⟩ (ptr (S + 3 * (i - 1) + 2))).cell? ⟨gq, i - 1, none⟩ = some (ptr (S + 3 * (i - 1) + 2)) := (set_ne W3 _ _ _ _ _ (.inl (by omega))).trans c1
              have d3 := (set_ne W3 (S + 3 * i + 2) 20 (ptr (S + 3 * (i - 1) + 2)) (S + 3 * (i - 1) + 2) 21 (.inl (by omega))).trans c3
              have hkk : Kept W3 (W3.setCell ⟨S + 3 * i + 2, 20, none⟩ (ptr (S + 3 * (i - 1) + 2))) (fun g => g = S + 3 * i + 2) := (Kept.refl W3 (fun g => g = S + 3 * i + 2)).setCell (a := ⟨S + 3 * i + 2, 20, none⟩) (.inl rfl) _
              have hla := (HL3.out.kept HO.out hkk (fun g hg => by omega)).setN HO.out (i - 1) 21 (ptr (S + 3 * i + 2)) (by decide) (by decide) (by decide)
              have hna := (HN3'.out.setP (ptr (S + 3 * (i - 1) + 2))).far (S + 3 * (i - 1) + 2) 21 (ptr (S + 3 * i + 2)) (by omega)
              have hqa : ((W3.setCell ⟨S + 3 * i + 2, 20, none⟩ (ptr (S + 3 * (i - 1) + 2))).setCell ⟨S + 3 * (i - 1) + 2, 21, none⟩ (ptr (S + 3 * i + 2))).cell? ⟨gq, i, none⟩ = some (ptr (S + 3 * i + 2)) :=
                (set_ne _ _ _ _ _ _ (.inl (by omega))).trans ((set_ne _ _ _ _ _ _ (.inl (by omega))).trans HQ3.out)
              have HA : Hid (Lay tB rB oB gq S (i + 1) bh (sQ bh rB oB S a3 (bit a2) (i + 1)) ((W3.setCell ⟨S + 3 * i + 2, 20, none⟩ (ptr (S + 3 * (i - 1) + 2))).setCell ⟨S + 3 * (i - 1) + 2, 21, none⟩ (ptr (S + 3 * i + 2)))) := by
                refine hla.join hna hqa _ rfl (fun p hp => ?_) (fun p hp => ?_) (fun _ _ => rfl) (fun _ _ => rfl) (fun _ _ => rfl) ?_ ?_ rfl rfl rfl
                · simp [sQ]
                · simp only [sQ, and_true]
                  rw [if_pos (show p + 1 < i + 1 by omega)]
                  by_cases e : p = i - 1
                  · rw [if_pos e, e, ← hj]
                  · rw [if_neg e, if_pos (by omega)]
                · simp only [sQ]
                  rw [if_neg hi0]
                · simp only [sQ]
                  rw [if_neg (by omega)]
              have HKA : Hid (Kept W3 ((W3.setCell ⟨S + 3 * i + 2, 20, none⟩ (ptr (S + 3 * (i - 1) + 2))).setCell ⟨S + 3 * (i - 1) + 2, 21, none⟩ (ptr (S + 3 * i + 2))) (fun g => S ≤ g)) := ((Kept.refl W3 _).setCell (.inl (by show S ≤ S + 3 * i + 2; omega)) _).setCell (.inl (by show S ≤ S + 3 * (i - 1) + 2; omega)) _
              have HSA := hide hna.size
              have HJ := hide hj
              clear hla hna hqa hkk hj hi0
              unfold ptr at c1 d1 d3
              go_wp2_with fail
              go_roundw
              case measure => simp [intOf]; omega
              case rel => exact ⟨i + 1, by omega, by go_num, HA.out, HSA.out.trans (by omega), fun p hp => by
                obtain ⟨u', hu'⟩ := HQ4.out p hp
                exact ⟨u', (HKA.out.cell (p := ⟨gq, p, none⟩) (by show gq < _; have := HN3'.out.size; omega) (fun h => by have : S ≤ gq := h; omega)).trans hu'⟩,
                (HBI.out.trans (HK3.out.below (by omega) (fun g hg => by omega))).trans (HKA.out.below (by have := HN3'.out.size; omega) (fun g hg => by have : S ≤ g := hg; omega))⟩
      · --EXIT1
        obtain rfl : n = i := by omega
        obtain ⟨oa, ob, oc, od, oe, of, og, oh⟩ := HO.out
        have g1 : (0 : Int) < (n : Int) := by omega
        have c0 : wr.cell? ⟨gq, 0, none⟩ = some (ptr (S + 2)) := HLI.out.q 0 hn
        have c1 := HLI.out.q (n - 1) (by omega)
        have c10 := HLI.out.r10
        have c11 := HLI.out.r11
        have f1 : ∀ o, wr.frozen? ⟨rB, o, none⟩ = false := fun o => HLI.out.fr _ _ (by omega) (by omega)
        have d1 : (wr.setCell ⟨rB, 10, none⟩ (ptr (S + 2))).cell? ⟨gq, n - 1, none⟩ = some (ptr (S + 3 * (n - 1) + 2)) := (set_ne wr _ _ _ _ _ (.inl (by omega))).trans c1
        have hl4 := (HLI.out.setR HO.out 10 (ptr (S + 2)) (by decide) (by decide)).setR HO.out 11 (ptr (S + 3 * (n - 1) + 2)) (by decide) (by decide)
        have hb4 : Below B w ((wr.setCell ⟨rB, 10, none⟩ (ptr (S + 2))).setCell ⟨rB, 11, none⟩ (ptr (S + 3 * (n - 1) + 2))) := HBI.out.trans ((((Kept.refl wr (fun g => B ≤ g)).setCell (a := ⟨rB, 10, none⟩) (.inl (by show B ≤ rB; omega)) _).setCell (a := ⟨rB, 11, none⟩) (.inl (by show B ≤ rB; omega)) _).below (by omega) (fun _ h => h))
        have HL4 := hide hl4
        have HB4 := hide hb4
        clear hl4 hb4 hin hlt HLI HQI HBI hmm hz75 hz88
        unfold ptr at c0 c1 d1
        go_upto_region 29 with fail
        change Code.wp _ _ _ _ ((wr.setCell ⟨rB, 10, none⟩ (ptr (S + 2))).setCell ⟨rB, 11, none⟩ (ptr (S + 3 * (n - 1) + 2)))
        generalize (wr.setCell ⟨rB, 10, none⟩ (ptr (S + 2))).setCell ⟨rB, 11, none⟩ (ptr (S + 3 * (n - 1) + 2)) = W4 at *
        clear c0 c1 c10 c11 f1 d1 g1 hsz
        obtain ⟨sB, hsB⟩ : ∃ sB, sB = ({ (sQ bh rB oB S a3 (bit a2) n) with hd := ptr (S + 3 * 0 + 2), tl := ptr (S + 3 * (n - 1) + 2) } : St) := ⟨_, rfl⟩
        have hl4 : Lay tB rB oB gq S n bh sB W4 := by rw [hsB]; exact HL4.out
        have ck := hl4.q k hk
        have hdq := deq_any hl4 HO.out k hk (bit a2 k) (ptr (S + 3 * k + 2)) a3 (by rw [hsB]; rfl) (by
            rw [hsB]; simp only [sQ]
            by_cases e : k + 1 = n
            · rw [if_pos e, if_neg (by omega)]
            · rw [if_neg e, if_pos (by omega)]) (by rw [hsB]) (by rw [hsB]; rfl) (by rw [hsB]; rfl) (by rw [hsB]; rfl) (by rw [hsB]; rfl) (by rw [hsB]; rfl) (by rw [hsB]; rfl)
        have HDQ := hide hdq
        have HSB := hide hsB
        have b0 : (0 : Int) ≤ (k : Int) := by omega
        have b1 : (k : Int) < (n : Int) := by omega
        clear hdq hsB hl4 HL4
        unfold ptr at HDQ ck
        go_upto_region 31 with (first | (go_at_call 5; refine HDQ.out.mono ?_; rintro e W5 ⟨rfl, hk5, hl5⟩))
        clear ck HDQ
        have HL5 := hide hl5
        have HB5 := hide (HB4.out.trans (hk5.below (by have := HB4.out.size; have := HB.out; omega) (fun _ h => h)))
        clear hl5 hk5 HB4
        --STAGE2
        obtain ⟨sF, hsF⟩ : ∃ sF, sF = sB.fin S n k bh (bit a2 k) (.int .i64 (wrap64 (a3 - 1))) := ⟨_, rfl⟩
        have hl5 : Lay tB rB oB gq S n bh sF W5 := by rw [hsF]; exact HL5.out
        have x15 := hl5.t15
        rw [hsF, fin_wt] at x15
        obtain ⟨C2, hC2, hmk2⟩ := make_qs 0 n (Nat.zero_le _) hn3
        have hmk3 : ∀ w : World, (Instr.makeSlice 66 (.int .i64 0) (.int .i64 n)).run Yba.prog w = .ok (.slice (some ⟨w.heap.size, 0, none⟩) 0 n) (w.alloc (.cells C2.toArray 61)) := fun w => by simpa using hmk2 w
        have hz5 := hl5.size
        have HRW := hide (own_made W5 (S + 3 * n) n C2 hC2 hz5 hn3)
        have hk6 : Kept W5 (W5.alloc (.cells C2.toArray 61)) (fun _ => False) := (Kept.refl W5 _).alloc _
        have HL6 := hide (hl5.kept HO.out hk6 (fun _ h => h.elim))
        have HB6 := hide (HB5.out.trans (hk6.below (by omega) (fun _ h => h.elim)))
        have HSF := hide hsF
        clear hl5 hsF hmk2 hC2 hk6 HL5 HB5
        go_upto_region 34 with fail
        clear x15 hmk3
        generalize W5.alloc (.cells C2.toArray 61) = W6 at *
        generalize W5.heap.size = gw at *
        go_wp2_with fail
        go_loopw [21, 22] (fun vw ii wr => ∃ i, i ≤ n ∧ ii = .int .i64 (i : Nat) ∧ wr.ownsRow (S + 3 * n) 61 1 vw (cnt k i) (wants S k (cnt k i)) ∧ Lay tB rB oB gq S n bh sF wr ∧ Below B w wr) (fun _ ii _ => n - (intOf ii).toNat)
        case atStart => exact ⟨0, by omega, rfl, by simpa [cnt, wants] using HRW.out, HL6.out, HB6.out⟩
        case round =>
          obtain ⟨i, hin, rfl, hrow, hl, hbe⟩ := hrel
          have HROW := hide hrow
          have HLI := hide hl
          have HBI := hide hbe
          clear hrow hl hbe HRW HL6 HB6
          by_cases hlt : i < n
          · have b2 : (0 : Int) ≤ (i : Int) := by omega
            have b3 : (i : Int) < (n : Int) := by omega
            by_cases hik : i = k
            · have hz : ((i : Int) == (k : Int)) = true := beq_iff_eq.2 (by omega)
              have HIK : Hid (cnt k (i + 1) = cnt k i) := by rw [hik]; exact cnt_skip _
              clear hik
              go_wp2_with fail
              go_roundw
              case measure => simp [intOf]; omega
              case rel => exact ⟨i + 1, by omega, by go_num, by rw [HIK.out]; exact HROW.out, HLI.out, HBI.out⟩
            · have hz : ((i : Int) == (k : Int)) = false := beq_eq_false_iff_ne.2 (by omega)
              have ci := HLI.out.q i hlt
              unfold ptr at ci
              have hcn : cnt k i ≤ n := by unfold cnt; split <;> omega
              obtain ⟨v', W', hr, ho', hkk, hnew⟩ := app_want wr (S + 3 * n) u21 (cnt k i) (wants S k (cnt k i)) HROW.out (.pointer (some ⟨S + 3 * i + 2, 0, none⟩)) rfl (by omega) HLI.out.size
              have HR := hide hr
              have HO' : Hid (W'.ownsRow (S + 3 * n) 61 1 v' (cnt k (i + 1)) (wants S k (cnt k (i + 1)))) := by
                rw [cnt_next hik, wants_succ, wi_cnt hik]; exact ho'
              have HL' := hide (HLI.out.kept HO.out hkk (fun g hg => own_ge HROW.out g hg))
              have HB' : Hid (Below B w W') := HBI.out.trans (hkk.below (by have := HLI.out.size; omega) (fun g hg => by have := own_ge HROW.out g hg; omega))
              clear hr ho' hkk hnew hik
              go_wp2_with (at_builtin; refine wpList_append_run rfl (.tmp 163) (.tmp 168) 66 66 66 rfl rfl _ _ rfl rfl _ _ HR.out ?_)
              go_roundw
              case measure => simp [intOf]; omega
              case rel => exact ⟨i + 1, by omega, by go_num, HO'.out, HL'.out, HB'.out⟩
          · --EXIT2
            obtain rfl : n = i := by omega
            have hcn : cnt k n = n - 1 := by unfold cnt; rw [if_pos hk]
            have hrow := HROW.out
            rw [hcn] at hrow
            obtain ⟨aL, cL, hvL, haL⟩ := own_cells hrow
            subst hvL
            obtain ⟨N, hN⟩ : ∃ N, N = n - 1 := ⟨_, rfl⟩
            rw [← hN] at haL ⊢
            have hN300 : N ≤ 300 := by omega
            have hpv : ∀ j, sB.pv j = if j = 0 then .pointer none else ptr (S + 3 * (j - 1) + 2) := fun j => by rw [HSB.out]; rfl
            have hnx : ∀ j, sB.nx j = if j + 1 < n then ptr (S + 3 * (j + 1) + 2) else .pointer none := fun j => by rw [HSB.out]; rfl
            have hPV : ∀ i, sF.pv (wi k i) = .pointer (pp S k i) := fun i => by rw [HSF.out, fin_pv]; exact pv_left hpv i
            have hNX : ∀ i, i < n - 1 → sF.nx (wi k i) = .pointer (pc S k n (i + 1)) := fun i hi => by rw [HSF.out, fin_nx]; exact nx_left hk hnx i hi
            have hHD : sF.hd = .pointer (pc S k n 0) := by rw [HSF.out, fin_hd]; exact hd_left hk hnx (by rw [HSB.out])
            have hTL : sF.tl = .pointer (pp S k (n - 1)) := by rw [HSF.out, fin_tl]; exact tl_left hk hpv (by rw [HSB.out])
            have hwiN : ∀ i, i < n - 1 → wi k i < n := fun i hi => by unfold wi; split <;> omega
            have x10 := HLI.out.r10
            rw [hHD] at x10
            have HPV := hide hPV
            have HNX := hide hNX
            have HTL := hide hTL
            have HWN := hide hwiN
            have HAL := hide haL
            have HNN := hide hN
            clear hpv hnx hPV hNX hHD hTL hwiN haL hN hcn hrow HROW hin hlt
            go_upto_region 41 with fail
            clear x10
            go_wp2_with fail
            go_loopw [23, 24, 25] (fun pr cu ii wr' => ∃ i, i ≤ N ∧ ii = .int .i64 (i : Nat) ∧ pr = .pointer (pp S k i) ∧ cu = .pointer (pc S k n i) ∧ wr' = wr) (fun _ _ ii _ => N - (intOf ii).toNat)
            case atStart => exact ⟨0, by omega, rfl, rfl, rfl, rfl⟩
            case round =>
              obtain ⟨i, hiN, rfl, rfl, rfl, hw⟩ := hrel
              subst hw
              by_cases hlt : i < N
              · have hN := HNN.out
                obtain ⟨g, rfl, hg, hce⟩ := HAL.out (by omega)
                have cw := hce i _ (wants_get S k N i hlt)
                have c20 := HLI.out.n20 (wi k i) (HWN.out i (by omega))
                have c21 := HLI.out.n21 (wi k i) (HWN.out i (by omega))
                rw [HPV.out] at c20
                rw [HNX.out i (by omega)] at c21
                have hpc : pc S k n i = some ⟨S + 3 * wi k i + 2, 0, none⟩ := by unfold pc; rw [if_pos (by omega)]
                have hpp : pp S k (i + 1) = some ⟨S + 3 * wi k i + 2, 0, none⟩ := by unfold pp; rw [if_neg (by omega), Nat.add_sub_cancel]
                have HPP := hide hpp
                rw [hpc]
                have b2 : (0 : Int) ≤ (i : Int) := by omega
                have b3 : (i : Int) < (N : Int) := by omega
                unfold ptr at cw
                clear hce hpc hpp hN
                generalize S + 3 * wi k i + 2 = qb at *
                generalize pp S k i = pi at *
                have hne := neq61
                have HLT := hide hlt
                go_wp2_with fail
                go_roundw
                case measure => have := HLT.out; simp [intOf]; omega
                case rel => exact ⟨i + 1, HLT.out, by go_num, by rw [HPP.out], rfl, trivial⟩
              · --EXIT3
                obtain rfl : N = i := by omega
                have hN := HNN.out
                have hpc : pc S k n N = none := by unfold pc; rw [if_neg (by omega)]
                rw [hpc]
                have x11 := HLI.out.r11
                rw [HTL.out, ← hN] at x11
                have x14 := HLI.out.r14
                rw [HSF.out, fin_rn _ _ _ _ _ _ _ (by rw [HSB.out]; rfl)] at x14
                have x13 := HLI.out.r13
                rw [HSF.out, fin_rp] at x13
                have x7 := HLI.out.t7
                rw [HSF.out, fin_tq] at x7
                have rpB : sB.rp = if bh then ptr oB else .pointer none := by rw [HSB.out]; rfl
                have tqB : sB.tq = if bh then ptr oB else ptr rB := by rw [HSB.out]; rfl
                have oqB : sB.oq = if bh then ptr rB else .pointer none := by rw [HSB.out]; rfl
                have opB : sB.op = .pointer none := by rw [HSB.out]; rfl
                rw [rpB] at x13
                rw [tqB] at x7
                generalize pp S k N = pt at *
                have X13 := hide x13
                have X7 := hide x7
                have OQB := hide oqB
                have OPB := hide opB
                clear hpc x13 x7 rpB tqB oqB opB hiN hlt HTL HPV HNX hN
                have hne1 := neq61
                have hne2 := neq41
                go_upto_if 217 with fail
                clear hne1
                go_cut [] from 217 to 290 (fun we => we = wr)
                case first =>
                  cases bh
                  · by_cases hN0 : N = 0
                    · have hz : ((N : Int) == 0) = true := beq_iff_eq.2 (by omega)
                      have x13 := X13.out
                      have x7 := X7.out
                      rw [if_pos (by have := HNN.out; omega)] at x13
                      rw [if_pos ⟨by have := HNN.out; omega, rfl⟩] at x7
                      clear hN0
                      go_wp2_with fail
                      go_meet
                      case rel => rfl
                    · have hz : ((N : Int) == 0) = false := beq_eq_false_iff_ne.2 (by omega)
                      have x13 := X13.out
                      have x7 := X7.out
                      rw [if_neg (by have := HNN.out; omega)] at x13
                      rw [if_neg (by have := HNN.out; omega)] at x7
                      simp only [Bool.false_eq_true, if_false] at x13 x7
                      unfold ptr at x7
                      clear hN0
                      go_wp2_with fail
                      go_meet
                      case rel => rfl
                  · have e15 : u15 = ptr oB := HOV.out
                    have o13 := HLI.out.o13 rfl
                    have o14 := HLI.out.o14 rfl
                    rw [HSF.out, fin_op, OPB.out] at o13
                    rw [HSF.out, fin_oq, OQB.out] at o14
                    subst e15
                    by_cases hN0 : N = 0
                    · have hz : ((N : Int) == 0) = true := beq_iff_eq.2 (by omega)
                      have x13 := X13.out
                      have x7 := X7.out
                      rw [if_pos (by have := HNN.out; omega)] at x13
                      rw [if_neg (by simp)] at x7
                      rw [if_pos ⟨by have := HNN.out; omega, rfl⟩] at o14
                      simp only [if_true] at x7
                      unfold ptr at *
                      clear hN0
                      go_wp2_with fail
                      go_meet
                      case rel => rfl
                    · have hz : ((N : Int) == 0) = false := beq_eq_false_iff_ne.2 (by omega)
                      have x13 := X13.out
                      have x7 := X7.out
                      rw [if_neg (by have := HNN.out; omega)] at x13
                      rw [if_neg (by simp)] at x7
                      rw [if_neg (by have := HNN.out; omega)] at o14
                      simp only [if_true] at x7 x13 o14
                      unfold ptr at *
                      clear hN0
                      go_wp2_with fail
                      go_meet
                      case rel => rfl
                case rest =>
                  subst hcut
                  have z1 := HLI.out.n1 k hk
                  have z4 := HLI.out.w4 k hk
                  have zm := HLI.out.mp k hk
                  rw [HSF.out, fin_mp, if_pos rfl] at zm
                  have hlook := look_gone _ (S + 3 * k) (bit a2 k) zm
                  have ZM := hide zm
                  have hbit := bit_any a2 k (by omega)
                  unfold ptr at z1
                  clear zm x11 x14
                  go_upto_if 306 with (first | (go_at_call 4; refine (hbit _).mono ?_; rintro e w' ⟨rfl, hw⟩; subst hw))
                  have ID := hide HLI.out
                  go_cut [] from 306 to 382 (fun we => Lay tB rB oB gq S n bh sF we ∧ Below B w we ∧ (0 < N → ∃ g, aL = some ⟨g, 0, none⟩ ∧ S + 3 * n ≤ g ∧ ∀ j u, (wants S k N)[j]? = some u → we.cell? ⟨g, j, none⟩ = some u))
                  case first =>
                    have y89 := ID.out.t89
                    have y90 := ID.out.t90
                    have y91 := ID.out.t91
                    have y10 := ID.out.w10 k hk
                    have y11 := ID.out.w11 k hk
                    rw [HSF.out, fin_i1] at y89
                    rw [HSF.out, fin_i2] at y90
                    rw [HSF.out, fin_ic] at y91
                    rw [HSF.out, fin_ip _ _ _ _ _ _ _ _ (by rw [HSB.out]; rfl)] at y10
                    rw [HSF.out, fin_iq _ _ _ _ _ _ _ _ (by rw [HSB.out]; rfl)] at y11
                    rw [show sB.i1 = .pointer none from by rw [HSB.out]; rfl] at y89
                    rw [show sB.i2 = .pointer none from by rw [HSB.out]; rfl] at y90
                    rw [show sB.ic = .int .i64 0 from by rw [HSB.out]; rfl] at y91
                    have hln := fun ty => run_len_map _ 67 ty _ _ _ und67 ZM.out
                    have hne3 := neq53
                    unfold ptr at y89 y90
                    cases hb : bit a2 k
                    · rw [hb] at y89 y90 y91 hln
                      simp only [Bool.false_eq_true, if_false, left] at y89 y90 y91 hln
                      go_wp2_with fail
                      go_meet
                      case rel => exact ⟨HLI.out, HBI.out, HAL.out⟩
                    · rw [hb] at y89 y90 y91 hln
                      simp only [if_true, left] at y89 y90 y91 hln
                      go_wp2_with fail
                      go_meet
                      case rel => exact ⟨HLI.out, HBI.out, HAL.out⟩
                  case rest =>
                    obtain ⟨lr, br, rr⟩ := hcut
                    have LR := hide lr
                    have BR := hide br
                    have RR := hide rr
                    clear lr br rr z1 z4 hlook hbit HLI HBI ZM ID HAL
                    go_wp2_with fail
                    go_loopw [385] (fun ii wr' => ∃ i, i ≤ N ∧ ii = .int .i64 (i : Nat) ∧ wr' = wc) (fun ii _ => N - (intOf ii).toNat)
                    case atStart => exact ⟨0, by omega, rfl, rfl⟩
                    case round =>
                      obtain ⟨i, hiN, rfl, hw⟩ := hrel
                      subst hw
                      by_cases hlt : i < N
                      · obtain ⟨g, rfl, hg, hce⟩ := RR.out (by omega)
                        have cw := hce i _ (wants_get S k N i hlt)
                        have hwi : wi k i < n := by have := HNN.out; unfold wi; split <;> omega
                        have hwk : wi k i ≠ k := by unfold wi; split <;> omega
                        have z1 := LR.out.n1 (wi k i) hwi
                        have z2 := LR.out.n2 (wi k i) hwi
                        have z4 := LR.out.w4 (wi k i) hwi
                        have zm := LR.out.mp (wi k i) hwi
                        rw [HSF.out, fin_mp, if_neg hwk] at zm
                        have hlook := look_r _ (S + 3 * wi k i) (ptr (S + 3 * wi k i + 2)) (bit a2 (wi k i)) (zm.trans (by rw [HSB.out]; rfl))
                        have b2 : (0 : Int) ≤ (i : Int) := by omega
                        have b3 : (i : Int) < (N : Int) := by omega
                        have hne1 := neq61
                        have hne2 := neq41
                        unfold ptr at cw z1 z2 hlook
                        clear hce zm hwi hwk
                        generalize hqb : S + 3 * wi k i + 2 = qb at *
                        generalize hob : S + 3 * wi k i + 1 = ob at *
                        generalize hmb : S + 3 * wi k i = mb at *
                        clear hqb hob hmb
                        go_wp2_with fail
                        go_roundw
                        case measure => simp [intOf]; omega
                        case rel => exact ⟨i + 1, by omega, by go_num, trivial⟩
                      · have hge : ¬ ((i : Int) < (N : Int)) := by omega
                        go_wp2_with fail
                        go_ret
                        first | exact ⟨rfl, BR.out⟩ | exact ⟨rfl, by rw [HB.out]; exact BR.out⟩
end Go.Proofs.Ybulkbhha
