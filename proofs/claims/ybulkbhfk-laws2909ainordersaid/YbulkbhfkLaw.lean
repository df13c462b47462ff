import Derived.Test.YbulkbhfkFin
import Derived.Deep.RegionLaw
namespace Go.Proofs.Ybulkbhfk
open Go.RowKit Go.Maps

theorem info25 : (Yba.prog.info? 25).map (fun i => (i.zero, i.size, i.bytes)) = some (some (.slice none 0 0), 1, 24) := by kernel_rfl
theorem make_ws (n : Nat) (hn : n ≤ 256) : ∃ C : List Value, C.length = n ∧ ∀ w : World, (Instr.makeSlice 32 (.int .i64 n) (.int .i64 n)).run Yba.prog w = .ok (.slice (some ⟨w.heap.size, 0, none⟩) n n) (w.alloc (.cells C.toArray 25)) := by
  obtain ⟨i, hi, hz, hs, hb⟩ := info_parts info25
  refine ⟨(madeCells (Value.cells (.slice none 0 0)) (n * 1)).toList, by simp [size_madeCells], fun w => ?_⟩
  have := run_make (P := Yba.prog) w 32 25 i _ Yba.underlying32 hi hz .i64 .i64 n n (by omega) (by omega) (by rw [hb]; omega) (by omega)
  simpa [hs] using this

theorem conv_one (k : Nat) (hk : k < 256) : ∀ w : World, (convert 25 9 (.slice (some ⟨w.heap.size, 0, none⟩) 1 1)).run Yba.prog (w.alloc (.cells #[.int .u8 (k : Int)] 5)).drew = .ok (.string ⟨#[k.toUInt8]⟩) (w.alloc (.cells #[.int .u8 (k : Int)] 5)).drew := fun w => by
  have hh : (w.alloc (.cells #[.int .u8 (k : Int)] 5)).heap[w.heap.size]? = some (.cells #[.int .u8 (k : Int)] 5) := heap_alloc_new w _
  have h1 : k.toUInt8.toNat = k := by simp; omega
  refine conv_bs (w.alloc (.cells #[.int .u8 (k : Int)] 5)).drew (.slice (some ⟨w.heap.size, 0, none⟩) 1 1) [k.toUInt8] ⟨_, _, rfl, fun _ => ⟨w.heap.size, 0, rfl, fun j hj => ?_⟩⟩
  have hj0 : j = 0 := by simp at hj; omega
  subst hj0
  show (w.alloc (.cells #[.int .u8 (k : Int)] 5)).cell? ⟨w.heap.size, 0, none⟩ = _
  simp only [World.cell?, hh]
  simp [h1]

set_option maxHeartbeats 4000000 in
set_option maxRecDepth 100000 in
theorem law_walk (a0 a1 a2 a3 : Option Addr) (n c0 l1 c1 l2 c2 c3 : Nat) (nm : Nat → ByteArray) (mb : Nat → Bool) (sv : Nat → Int) (pl : List UInt8) (w : World)
    (h0 : Cells w a0 n (fun i => .string (nm i))) (h1 : Cells w a1 l1 (fun i => .bool (mb i))) (h2 : Cells w a2 l2 (fun i => .int .u64 (sv i))) (h3 : Cells w a3 pl.length (fun i => .int .u8 ((pl.getD i 0).toNat : Int)))
    (hsv : ∀ i, i < l2 → (Lit.int .u64 (sv i)).wf = true) (hpl : pl.length ≤ 140737488351232) (hm0 : n ≤ maxLen) (hm1 : l1 ≤ maxLen) (hm2 : l2 ≤ maxLen) :
    Calls Yba.prog 3 #[.slice a0 n c0, .slice a1 l1 c1, .slice a2 l2 c2, .slice a3 pl.length c3] w fun e w' => e = .returned (.bool true) ∧ Below w.heap.size w w' := by
  unfold maxLen at hm0 hm1 hm2
  by_cases hn : n ≤ 256
  · have H0 := hide h0
    have H1 := hide h1
    have H2 := hide h2
    have H3 := hide h3
    have HSV := hide hsv
    clear h0 h1 h2 h3 hsv
    have hd0 : decide ((256 : Int) < (n : Int)) = false := decide_eq_false (by omega)
    obtain ⟨C, hC, hmk⟩ := make_ws n hn
    have HC := hide hC
    have HMK := hide hmk
    clear hC hmk
    have hmm := @run_makeMap Yba.prog
    go_enter Yba.func3, Yba.ntmps3
    go_wp2_with fail
    go_loop [35] (fun t => ∃ k : Nat, k ≤ n ∧ t = .int .i64 k ∧ ∀ i, i < k → (nm i).size ≤ 1024) (fun t => n - (intOf t).toNat)
    case atStart => exact ⟨0, by omega, rfl, fun i h => absurd h (Nat.not_lt_zero _)⟩
    case round =>
      obtain ⟨k, hk, rfl, hall⟩ := hrel
      have HALL := hide hall
      clear hall
      by_cases hlt : k < n
      · obtain ⟨g, o, rfl, hg, hc⟩ := H0.out (by omega)
        have hck := hc k hlt
        clear hc
        by_cases hsz : (nm k).size ≤ 1024
        · go_wp2_with fail
          go_round
          case rel => exact ⟨k + 1, by omega, by go_num, fun i hi => by
            rcases Nat.lt_succ_iff_lt_or_eq.1 hi with h | rfl
            · exact HALL.out i h
            · exact hsz⟩
          case measure => simp [intOf]; omega
        · go_wp2_with fail
          go_ret
          exact ⟨rfl, Below.refl _ _⟩
      · obtain rfl : n = k := by omega
        have HNM := hide HALL.out
        clear HALL hk hlt
        have hmk := HMK.out
        go_upto_region 13 with fail
        clear hmk hmm HMK
        obtain ⟨d, hdd⟩ : ∃ d, d = mkData n nm l1 mb l2 sv := ⟨_, rfl⟩
        have hgood : d.Good := by rw [hdd]; exact mk_good n nm l1 mb l2 sv hn HNM.out
        have hkeys : ∀ i j, i < d.n → j < d.n → i ≠ j → d.key i ≠ d.key j := by rw [hdd]; exact mk_keys n nm l1 mb l2 sv hn
        have hdn : d.n = n := by rw [hdd]; rfl
        have horg : ∀ i, d.org i = ⟨#[i.toUInt8]⟩ ++ nm i := fun i => by rw [hdd]; rfl
        have hwl : ∀ i, d.wl i = 60 :: ((i.toUInt8 :: (nm i).data.toList) ++ [62]) := fun i => by rw [hdd]; rfl
        have hok : ∀ i, d.ok i = !(decide (i < l1) && mb i) := fun i => by rw [hdd]; rfl
        have hsq : ∀ i, d.sq i = if i < l2 then sv i else 0 := fun i => by rw [hdd]; rfl
        have IN0 := hide (inv_start d w C (by rw [HC.out, hdn]) hgood.st0)
        have HG := hide hgood
        have HKY := hide hkeys
        have HDN := hide hdn
        have HORG := hide horg
        have HWL := hide hwl
        have HOK := hide hok
        have HSQ := hide hsq
        clear hgood hkeys hdn horg hwl hok hsq hdd HC
        generalize ((w.alloc (.cells #[.slice none 0 0, .slice none 0 0, .slice none 0 0] 29)).alloc (.map #[] 0)).alloc (.cells C.toArray 25) = W at *
        generalize hBB : w.heap.size = B at *
        have HBB := hide hBB
        clear hBB
        go_wp2_with fail
        go_loopw [15] (fun t wr => ∃ k vO vW vE, k ≤ n ∧ t = .int .i64 k ∧ Inv d w B k k k k k wr vO vW vE) (fun t _ => n - (intOf t).toNat)
        case atStart => exact ⟨0, _, _, _, by omega, rfl, IN0.out⟩
        case round =>
          obtain ⟨k, vO, vW, vE, hk, rfl, hinv⟩ := hrel
          have HI := hide hinv
          clear hinv IN0
          by_cases hlt : k < n
          · obtain ⟨g0, o0, rfl, hg0, hc0⟩ := H0.out (by omega)
            have hck : wr.cell? ⟨g0, o0 + k, none⟩ = some (.string (nm k)) := by
              rw [HI.out.below.cell (p := ⟨g0, o0 + k, none⟩) (by rw [← HBB.out]; exact hg0)]; exact hc0 k hlt
            have hnk := HNM.out k hlt
            have b0 : (0 : Int) ≤ (k : Int) := by omega
            have b1 : (k : Int) < (n : Int) := by omega
            have b2 : IntKind.u8.wrap (k : Int) = (k : Int) := by rw [IntKind.wrap_u8]; omega
            have hcv := conv_one k (by omega)
            clear hc0
            go_upto_region 16 with fail
            go_cut [16] from 55 to 63 (fun v wd => v = .string (d.org k) ∧ Inv d w B k k k k k wd vO vW vE)
            case first =>
              have hck2 : ∀ o, (wr.alloc o).cell? ⟨g0, o0 + k, none⟩ = some (.string (nm k)) := fun o => by
                rw [World.cell?_alloc_lt _ _ _ (World.block_lt_of_cell? wr _ hck)]; exact hck
              go_region_with (fail)
              all_goals
                go_wp2_with fail
                go_meet
                case rel => exact ⟨by rw [HORG.out], HI.out.kept (((Kept.refl wr _).alloc _).drew)⟩
            case rest =>
              obtain ⟨rfl, hi1⟩ := hcut
              clear hck HI hcv b2
              have hkd : k < d.n := by rw [HDN.out]; exact hlt
              obtain ⟨gO, cO, w2, hr1, hx1, hf1, hi2⟩ := do_orgs (by omega) hi1
              have hx0 := (three_cells hi1.fo).1
              have HR1 := hide hr1
              have HI2 := hide hi2
              clear hr1 hi1 hi2
              go_upto_region 18 with (at_builtin; refine wpList_append_run rfl (.tmp 68) (.tmp 70) 22 22 22 rfl rfl _ _ rfl rfl _ _ HR1.out ?_)
              generalize w2.setCell ⟨B, 0, none⟩ (.slice (some ⟨gO, 0, none⟩) (k + 1) cO) = w3 at *
              clear hx0 hx1 hf1 HR1
              obtain ⟨v1, w4, g, c, w5, hr2, hr3, hi5, hrow, hne⟩ := do_w HG.out hkd (by rw [HWL.out, HORG.out]; simp [ByteArray.data_append]) HI2.out
              have HR2 := hide hr2
              have HR3 := hide hr3
              have HROW := hide hrow
              have HNE := hide hne
              have HI5 := hide hi5
              clear hr2 hr3 hrow hne hi5 HI2
              go_upto_region 20 with (first | (at_builtin; refine wpList_append_run rfl (.tmp 74) (.tmp 75) 25 9 25 rfl rfl _ _ rfl rfl _ _ HR2.out ?_) | (at_builtin; refine wpList_append_run rfl (.tmp 77) (.tmp 78) 25 25 25 rfl rfl _ _ rfl rfl _ _ HR3.out ?_))
              clear HR2 HR3
              obtain ⟨⟨u, hu⟩, hfu⟩ := do_ws hkd HI5.out
              have HI6 := hide (HI5.out.stepS HROW.out HNE.out hkd)
              have HROW6 := hide (own_setCell HROW.out (a := ⟨B + 2, k, none⟩) (fun e => by have : B + 3 ≤ B + 2 := own_ge HROW.out e; omega) (.slice (some ⟨g, 0, none⟩) (d.wl k).length c))
              clear HI5 HROW HNE
              go_upto_region 21 with fail
              change Code.wp _ _ _ _ (w5.setCell ⟨B + 2, k, none⟩ (.slice (some ⟨g, 0, none⟩) (d.wl k).length c))
              generalize w5.setCell ⟨B + 2, k, none⟩ (.slice (some ⟨g, 0, none⟩) (d.wl k).length c) = w6 at *
              clear hu hfu
              obtain ⟨gW, cW, w7, hr4, hx4, hf4, hi7⟩ := do_written HG.out hkd HI6.out HROW6.out
              have hx0 := (three_cells HI6.out.fo).2.1
              have HR4 := hide hr4
              have HI7 := hide hi7
              clear hr4 hi7 HROW6 HI6
              go_upto_region 22 with (at_builtin; refine wpList_append_run rfl (.tmp 88) (.tmp 89) 25 25 25 rfl rfl _ _ rfl rfl _ _ HR4.out ?_)
              generalize w7.setCell ⟨B, 1, none⟩ (.slice (some ⟨gW, 0, none⟩) (d.st (k + 1)) cW) = w8 at *
              clear hx0 hx4 hf4 HR4
              have HI8 := hide (HI7.out.kept (Kept.refl w8 _).drew)
              obtain ⟨gE, cE, w9, hr5, hx5, hf5, hx5', hi9⟩ := do_ends HG.out hkd HI8.out
              have hy1 := (three_cells HI8.out.fo).2.1
              have hy2 := (three_cells HI8.out.fo).2.2
              have hg1 := (three_cells HI7.out.fo).2.1
              have hg2 := (three_cells HI7.out.fo).2.2
              have HR5 := hide hr5
              have HI9 := hide hi9
              clear hr5 hi9
              go_cut [] from 93 to 106 (fun wd => Inv d w B (k + 1) (k + 1) (k + 1) k (k + 1) wd (.slice (some ⟨gO, 0, none⟩) (k + 1) cO) (.slice (some ⟨gW, 0, none⟩) (d.st (k + 1)) cW) (.slice (some ⟨gE, 0, none⟩) (k + 1) cE))
              case first =>
                have hz8 : B < w8.heap.size := by have := HI7.out.size; omega
                have ha1 : ∀ o, (w8.alloc o).cell? ⟨B, 1, none⟩ = some (.slice (some ⟨gW, 0, none⟩) (d.st (k + 1)) cW) := fun o => by rw [World.cell?_alloc_lt _ _ _ hz8]; exact hg1
                have ha2 : ∀ o, (w8.alloc o).cell? ⟨B, 2, none⟩ = some vE := fun o => by rw [World.cell?_alloc_lt _ _ _ hz8]; exact hg2
                clear hy1 hy2
                go_region_law ((refine step_append_run rfl (.tmp 97) (.tmp 103) 27 27 27 rfl rfl _ _ rfl rfl _ _ HR5.out ?_))
                all_goals
                  go_wp2_with fail
                  go_meet
                  case rel => exact HI9.out
              case rest =>
                have HIA := hide hcut
                clear hcut HI7 HI8 HI9 HR5 hx5 hf5 hx5' hy1 hy2 hg1 hg2
                go_upto_if 110 with fail
                go_cut [18] from 107 to 114 (fun v wd => v = .int .u64 (d.sq k) ∧ wd = wc)
                case first =>
                  by_cases h2l : k < l2
                  · obtain ⟨g2, o2, rfl, hg2, hc2⟩ := H2.out (by omega)
                    have hx : wc.cell? ⟨g2, o2 + k, none⟩ = some (.int .u64 (sv k)) := by
                      rw [HIA.out.below.cell (p := ⟨g2, o2 + k, none⟩) (by rw [← HBB.out]; exact hg2)]; exact hc2 k h2l
                    clear hc2
                    go_wp2_with fail
                    go_meet
                    case rel => exact ⟨by rw [HSQ.out, if_pos h2l], rfl⟩
                  · go_wp2_with fail
                    go_meet
                    case rel => exact ⟨by rw [HSQ.out, if_neg h2l], rfl⟩
                case rest =>
                  obtain ⟨rfl, hw⟩ := hcut
                  subst hw
                  go_upto_region 26 with fail
                  go_cut [125] from 115 to 124 (fun v we => v = .bool (d.ok k) ∧ we = wc)
                  case first =>
                    by_cases h1l : k < l1
                    · obtain ⟨g1, o1, rfl, hg1, hc1⟩ := H1.out (by omega)
                      have hx : wc.cell? ⟨g1, o1 + k, none⟩ = some (.bool (mb k)) := by
                        rw [HIA.out.below.cell (p := ⟨g1, o1 + k, none⟩) (by rw [← HBB.out]; exact hg1)]; exact hc1 k h1l
                      clear hc1
                      go_wp2_with fail
                      go_meet
                      case rel => exact ⟨by rw [HOK.out]; simp [h1l], rfl⟩
                    · go_wp2_with fail
                      go_meet
                      case rel => exact ⟨by rw [HOK.out]; simp [h1l], rfl⟩
                  case rest =>
                    obtain ⟨rfl, hw⟩ := hcut
                    subst hw
                    obtain ⟨cnt, D, hcnt, hmap, hD⟩ := HIA.out.m
                    have HMAP := hide hmap
                    have HD := hide hD
                    clear hmap hD
                    cases hokk : d.ok k
                    · have HIB := hide (HIA.out.stepM (World.grownBy.refl _ _) (Nat.le_succ_of_le hcnt) HMAP.out (mspec_skip HD.out hokk))
                      go_wp2_with fail
                      go_roundw
                      case rel => exact ⟨k + 1, _, _, _, by omega, by go_num, HIB.out⟩
                      case measure => simp [intOf]; omega
                    · have hkey : keyOf Yba.prog 9 (.string (d.org k)) = some (d.key k) := Go.WideMaps.keyOf_string_mk Yba.underlying9 (by have := HG.out.orgM k hkd; unfold maxLen; omega)
                      have HKEY := hide hkey
                      have hwf : (Lit.int .u64 (d.sq k)).wf = true := by
                        rw [HSQ.out]
                        split
                        · rename_i hlt2; exact HSV.out k hlt2
                        · decide
                      have HWF := hide (plainElem_int (P := Yba.prog) (H := Unit) Yba.underlying33 hwf)
                      have HCM : Hid (cnt < maxLen) := by show cnt < maxLen; unfold maxLen; omega
                      clear hkey hwf
                      go_wp2_with (at_mapUpdate; refine wpList_mapUpdate_own _ rfl (.tmp 126) (.tmp 127) (.tmp 128) 31 rfl 9 33 law Yba.underlying31 _ (B + 1) cnt D rfl HMAP.out HCM.out _ _ _ rfl rfl HKEY.out (.lit (.int .u64 (d.sq k))) [] HWF.out ?_; intro wf hown1 hgrow1; have HIB := hide (HIA.out.stepM hgrow1 (Nat.succ_le_succ hcnt) hown1 (mspec_put HD.out HMAP.out.isMap hkd hokk HKY.out)); clear hown1 hgrow1)
                      go_roundw
                      case rel => exact ⟨k + 1, _, _, _, by omega, by go_num, HIB.out⟩
                      case measure => simp [intOf]; omega
          · --EXIT2
            obtain rfl : n = k := by omega
            have hinv : Inv d w B d.n d.n d.n d.n d.n wr vO vW vE := by rw [HDN.out]; exact HI.out
            obtain ⟨gO, gW, gE, cO, cW, cE, hS, hblk⟩ := hinv.stat HG.out
            have hsz := hinv.size
            have HS := hide hS
            have HBLK := hide hblk
            have HIV := hide hinv
            clear hS hblk hinv HI HKY HORG HWL hk
            have hmf : ∀ (fn : Fn) (first cap : Array Value) (w : World), (Instr.makeFunc fn first cap).run Yba.prog w = .ok (.func fn first cap) w := fun _ _ _ _ => rfl
            go_upto_region 30 with fail
            obtain ⟨W1, hW1⟩ : ∃ W1, W1 = wr.alloc (.cells #[.slice none 0 0] 34) := ⟨_, rfl⟩
            obtain ⟨Bl, hBl⟩ : ∃ Bl, Bl = wr.heap.size := ⟨_, rfl⟩
            have hK1 : Kept wr W1 (fun _ => False) := by rw [hW1]; exact (Kept.refl wr _).alloc _
            have hs1 : W1.heap.size = Bl + 1 := by rw [hW1, hBl]; simp
            have hLc1 : W1.heap[Bl]? = some (.cells #[.slice none 0 0] 34 (0, 0)) := by rw [hW1, hBl]; exact heap_alloc_new wr _
            have hbe1 : Below w.heap.size w W1 := by
              rw [HBB.out]; exact HIV.out.below.trans (hK1.below (by omega) (fun _ h => h.elim))
            obtain ⟨vb, W2, hr1, happ1⟩ := app_bytes W1 (B + 3) 25 (.slice none 0 0) 0 [] (World.ownsRow_nil _ _ _ _) _ _ _ (src_in (c := c3) H3.out hbe1) (by omega) (by omega)
            have hK2 : Kept wr W2 (fun _ => False) := hK1.grown happ1.2.1 (fun g hg => by cases hg)
            have hvb : ∀ g, vb.ownBlock = some g → Bl + 1 ≤ g := fun g hg => by
              rcases own_new happ1 g hg with h | h
              · cases h
              · omega
            have hLc2 : W2.heap[Bl]? = some (.cells #[.slice none 0 0] 34 (0, 0)) := (happ1.2.1.block Bl (by omega) (by simp [Value.ownBlock])).trans hLc1
            have hb2 := happ1.1
            rw [Nat.zero_add, List.nil_append] at hb2
            have hS2 := HS.out.kept hK2 id id (fun _ => ⟨id, id, id⟩)
            have hlt := HS.out.lt
            have nt : ∀ g, g < Bl → ¬ (g = Bl ∨ vb.ownBlock = some g ∨ (Value.slice none 0 0).ownBlock = some g) := fun g hg e => by
              rcases e with e | e | e
              · omega
              · have := hvb _ e; omega
              · cases e
            have hcall := inOrder_any d HG.out W2 B (B + 1) gO gW gE cO cW cE (B + 3) Bl pl.length vO vW vE vb (.slice none 0 0) (bytesV pl) hS2 hb2 hLc2 (World.ownsRow_nil _ _ _ _)
              (nt B (by omega)) (nt (B + 1) (by omega)) (fun h0 => ⟨nt gO (by have := hlt.2.2 h0; omega), nt gW (by have := hlt.2.2 h0; omega), nt gE (by have := hlt.2.2 h0; omega)⟩)
              (by omega) (by have := hK2.size; omega)
            have HCALL := hide hcall
            have HR1 := hide hr1
            have HK2 := hide hK2
            have HVB := hide hvb
            have HBL := hide hBl
            rw [← hW1, ← hBl]
            clear hW1 hK1 hLc1 hbe1 hr1 happ1 hK2 hvb hLc2 hb2 hS2 hlt hcall hBl nt hs1
            go_wp2_with (at_builtin; refine wpList_append_run rfl (.const (.slice none 0 0)) (.tmp 130) 25 25 25 rfl rfl _ _ rfl rfl _ _ HR1.out ?_)
            refine HCALL.out.mono ?_
            intro e W3 hend
            obtain ⟨k', vb', vL', okB, rfl, hk', hall', hok1, hok2, hp⟩ := hend
            have FIN3 := fin_of HIV.out HS.out HK2.out (by rw [HBL.out]; exact Nat.le_refl _) (fun g hg => by have := HVB.out g hg; have := HBL.out; omega) hp
            have hbe3 : Below w.heap.size w W3 := by
              rw [HBB.out]
              refine (HIV.out.below.trans (HK2.out.below (by omega) (fun _ h => h.elim))).trans (hp.kept.below (by have := HK2.out.size; omega) (fun g hg => ?_))
              rcases hg with h | h | h
              · have := HBL.out; omega
              · have := HVB.out g h; have := HBL.out; omega
              · cases h
            have hs3 : B + 3 ≤ W3.heap.size := by have := HK2.out.size; have := hp.kept.size; omega
            obtain ⟨vw, W4, hr2, happ2⟩ := app_bytes W3 (B + 3) 25 (.slice none 0 0) 0 [] (World.ownsRow_nil _ _ _ _) _ _ _ (src_in (c := c3) H3.out hbe3) (by omega) (by omega)
            have hK4 : Kept W3 W4 (fun _ => False) := (Kept.refl W3 _).grown happ2.2.1 (fun g hg => by cases hg)
            have hvw : ∀ g, vw.ownBlock = some g → W3.heap.size ≤ g := fun g hg => by
              rcases own_new happ2 g hg with h | h
              · cases h
              · omega
            have hw4 := happ2.1
            rw [Nat.zero_add, List.nil_append] at hw4
            have FIN4 := FIN3.kept hK4 (fun _ h => h.elim)
            have hbe4 : Below w.heap.size w W4 := hbe3.trans (hK4.below (by rw [HBB.out]; omega) (fun _ h => h.elim))
            have hfirst : okB = true → k' = n := fun h => by rw [← HDN.out]; exact hok1 h
            have hsecond : okB = false → k' < n ∧ d.ok k' = false := fun h => by rw [← HDN.out]; exact hok2 h
            have hkn : k' ≤ n := by rw [← HDN.out]; exact hk'
            have hN4 := hK4.size
            have HR2 := hide hr2
            have HVW := hide hvw
            have HW4 := hide hw4
            have HF4 := hide FIN4
            have HBE4 := hide hbe4
            have HALL := hide hall'
            have HF1 := hide hfirst
            have HF2 := hide hsecond
            generalize hN : W3.heap.size = N at *
            clear hp FIN3 FIN4 hbe3 hr2 happ2 hK4 hvw hw4 hbe4 hall' hok1 hok2 hfirst hsecond hk' HCALL HR1 HK2 HVB HBL HIV HS HBLK
            go_upto_region 33 with (at_builtin; refine wpList_append_run rfl (.const (.slice none 0 0)) (.tmp 140) 25 25 25 rfl rfl _ _ rfl rfl _ _ HR2.out ?_)
            obtain ⟨gL, cL, _, ⟨aL, hvL, haL⟩, _⟩ := own_any HF4.out.rl
            subst hvL
            have HAL := hide haL
            clear haL hN
            go_wp2_with fail
            go_loopw [24, 25, 26, 27] (fun vw1 wk kk ii wr => ∃ i, i ≤ n ∧ i ≤ k' ∧ ii = .int .i64 (i : Nat) ∧ kk = .int .i64 i ∧ wk = .bool true ∧ wr.ownsRow (B + 3) 5 1 vw1 (pl.length + (d.outs i).length) (bytesV pl ++ bytesV (d.outs i)) ∧ Fin d B Bl gW cW k' pl.length N (.slice aL k' cL) vb' pl wr ∧ Below w.heap.size w wr ∧ (∀ g, vw1.ownBlock = some g → N ≤ g)) (fun _ _ _ ii _ => n - (intOf ii).toNat)
            case atStart => exact ⟨0, by omega, by omega, rfl, rfl, rfl, by simpa [Data.outs, bytesV] using HW4.out, HF4.out, HBE4.out, HVW.out⟩
            case round =>
              obtain ⟨i, hin, hik, rfl, rfl, rfl, hrow, hfin, hbel, hnew⟩ := hrel
              have HROW := hide hrow
              have HFIN := hide hfin
              have HBEL := hide hbel
              have HNEW := hide hnew
              have hlc := (one_block hfin.fl).1
              clear hrow hfin hbel hnew HF4 HBE4 HW4 HVW
              by_cases hlt : i < n
              · go_upto_region 38 with fail
                go_cut [156] from 147 to 155 (fun v we => v = .bool (!d.ok i) ∧ we = wr)
                case first =>
                  by_cases h1l : i < l1
                  · obtain ⟨g1, o1, rfl, hg1, hc1⟩ := H1.out (by omega)
                    have hx : wr.cell? ⟨g1, o1 + i, none⟩ = some (.bool (mb i)) := by
                      rw [HBEL.out.cell (p := ⟨g1, o1 + i, none⟩) hg1]; exact hc1 i h1l
                    clear hc1
                    go_wp2_with fail
                    go_meet
                    case rel => exact ⟨by rw [HOK.out]; simp [h1l], rfl⟩
                  · go_wp2_with fail
                    go_meet
                    case rel => exact ⟨by rw [HOK.out]; simp [h1l], rfl⟩
                case rest =>
                  obtain ⟨rfl, hw⟩ := hcut
                  subst hw
                  cases hok : d.ok i
                  · have hik' : i = k' := by
                      rcases Nat.lt_or_ge i k' with h | h
                      · have := HALL.out i h; rw [hok] at this; cases this
                      · omega
                    have hokB : okB = false := by
                      cases hB : okB
                      · rfl
                      · have := HF1.out hB; omega
                    subst hik' hokB
                    have HB1 := hide (bs_two HFIN.out.got)
                    have HB2 := hide (bs_two HROW.out)
                    go_wp2_with (go_at_call 6; refine (equal_any _ _ _ (pl ++ d.outs i) HB1.out HB2.out).mono ?_; rintro e w' ⟨rfl, rfl⟩)
                    go_ret
                    exact ⟨rfl, HBEL.out⟩
                  · have hikk : i < k' := by
                      rcases Nat.lt_or_ge i k' with h | h
                      · exact h
                      · have e : k' = i := by omega
                        cases hB : okB
                        · have := (HF2.out hB).2; rw [e, hok] at this; cases this
                        · have := HF1.out hB; omega
                    have hid : i < d.n := by rw [HDN.out]; exact hlt
                    obtain rfl := HAL.out (by omega)
                    obtain ⟨e0, e1, e2, e3⟩ := HFIN.out.entry i hikk
                    obtain ⟨nB, cB, hbf⟩ := befA_eq d gW cW i
                    rw [hbf] at e0
                    unfold Data.slot at e1
                    have HBF := hide hbf
                    clear hbf
                    go_upto_region 43 with fail
                    have hK5 : Kept wc (wc.alloc (.cells #[.slice (d.befA gW i) nB cB, .slice (some ⟨gW, d.st i, none⟩) (d.wl i).length (cW - d.st i), .bool (d.befA gW i).isNone, .int .u64 (d.sq i)] 36)) (fun _ => False) := (Kept.refl wc _).alloc _
                    obtain ⟨x0, x1, x2, x3⟩ := four_cells (heap_alloc_new wc (.cells #[.slice (d.befA gW i) nB cB, .slice (some ⟨gW, d.st i, none⟩) (d.wl i).length (cW - d.st i), .bool (d.befA gW i).isNone, .int .u64 (d.sq i)] 36))
                    clear e0 e1 e2 e3
                    generalize wc.alloc (.cells #[.slice (d.befA gW i) nB cB, .slice (some ⟨gW, d.st i, none⟩) (d.wl i).length (cW - d.st i), .bool (d.befA gW i).isNone, .int .u64 (d.sq i)] 36) = W5 at *
                    have hF5 := HFIN.out.kept hK5 (fun _ h => h.elim)
                    have HBE5 : Hid (Below w.heap.size w W5) := HBEL.out.trans (hK5.below (by have := HBEL.out.size; omega) (fun _ h => h.elim))
                    have HROW5 : Hid (W5.ownsRow (B + 3) 5 1 u24 (pl.length + (d.outs i).length) (bytesV pl ++ bytesV (d.outs i))) := hK5.own HROW.out (fun _ _ h => h.elim)
                    have HK5 := hide hK5
                    obtain ⟨gi, ci, hwc, hgi, hcl, hbs⟩ := hF5.ws_cell i hid
                    have HBS1 : Hid (BS W5.drew (.slice (some ⟨gW, d.st i, none⟩) (d.wl i).length (cW - d.st i)) (d.wl i)) := hF5.bs_slot i hid
                    have HBS2 : Hid (BS W5.drew (.slice (some ⟨gi, 0, none⟩) (d.wl i).length ci) (d.wl i)) := hbs
                    have HF5 := hide hF5
                    have b0 : (0 : Int) ≤ (i : Int) := by omega
                    have b1 : (i : Int) < (n : Int) := by omega
                    clear hK5 hF5 hbs hcl
                    generalize wc.heap.size = bc at *
                    go_region_held3 (fun w' => w'.cell? ⟨bc, 1, none⟩ = some (.slice (some ⟨gW, d.st i, none⟩) (d.wl i).length (cW - d.st i)) ∧ w'.cell? ⟨B + 1 + 1, i, none⟩ = some (.slice (some ⟨gi, 0, none⟩) (d.wl i).length ci)) (go_keep)
                      (first | (go_at_call 6; refine (equal_any _ _ _ (d.wl i) HBS1.out HBS2.out).mono ?_; rintro e w' ⟨rfl, hw⟩; subst hw))
                    go_upto_if 174 with fail
                    go_cut [] from 173 to 190 (fun we => Kept W5 we (fun _ => False) ∧ we.cell? ⟨bc, 3, none⟩ = some (.int .u64 (d.sq i)))
                    case first =>
                      by_cases hi0 : i = 0
                      · have hz : ((i : Int) == 0) = true := beq_iff_eq.2 (by omega)
                        have hnn : (d.befA gW i).isNone = true := by rw [hi0]; rfl
                        go_wp2_with fail
                        go_meet
                        case rel => exact ⟨(Kept.refl _ _).drew, x3⟩
                      · have hz : ((i : Int) == 0) = false := beq_eq_false_iff_ne.2 (by omega)
                        have hnn : (d.befA gW i).isNone = false := by
                          cases i with
                          | zero => exact absurd rfl hi0
                          | succ j => rfl
                        obtain ⟨j, hj⟩ : ∃ j, i = j + 1 := ⟨i - 1, by omega⟩
                        have HJ := hide hj
                        obtain ⟨gj, cj, hwj, _, _, hbj⟩ := HF5.out.ws_cell j (by omega)
                        have HBS3 : Hid (BS W5.drew.drew (.slice (d.befA gW i) nB cB) (d.wl j)) := by
                          have := HF5.out.bs_slot j (by omega)
                          rw [show d.slot gW cW j = d.bef gW cW i from by subst hj; rfl, HBF.out] at this
                          exact this
                        have HBS4 : Hid (BS W5.drew.drew (.slice (some ⟨gj, 0, none⟩) (d.wl j).length cj) (d.wl j)) := hbj
                        have q0 : (0 : Int) ≤ (j : Int) := by omega
                        have q1 : (j : Int) < (n : Int) := by omega
                        have q2 : IntKind.i64.wrap ((i : Int) - 1) = (j : Int) := by rw [IntKind.wrap_i64]; omega
                        rw [hnn] at x2
                        clear hbj hj hi0 hwc b0 hnn
                        go_upto_region 48 with fail
                        go_region_held3 (fun w' => w'.cell? ⟨bc, 2, none⟩ = some (.bool false) ∧ w'.cell? ⟨bc, 0, none⟩ = some (.slice (d.befA gW i) nB cB) ∧ w'.cell? ⟨B + 1 + 1, j, none⟩ = some (.slice (some ⟨gj, 0, none⟩) (d.wl j).length cj)) (go_keep)
                          (first | (go_at_call 6; refine (equal_any _ _ _ (d.wl j) HBS3.out HBS4.out).mono ?_; rintro e w' ⟨rfl, hw⟩; subst hw))
                        go_wp2_with fail
                        go_meet
                        case rel => exact ⟨(Kept.refl _ _).drew.drew, x3⟩
                    case rest =>
                      obtain ⟨hke, hx3⟩ := hcut
                      have HKE := hide hke
                      have hF6 := HF5.out.kept hke (fun _ h => h.elim)
                      have HF6 := hide hF6
                      have HB6 : Hid (Below w.heap.size w wc) := HBE5.out.trans (hke.below HBE5.out.size (fun _ h => h.elim))
                      have HROW6 : Hid (wc.ownsRow (B + 3) 5 1 u24 (pl.length + (d.outs i).length) (bytesV pl ++ bytesV (d.outs i))) := hke.own HROW5.out (fun _ _ h => h.elim)
                      clear hke hF6 x0 x1 x2 x3 hwc HBS1 HBS2 HFIN HROW HF5 HROW5 HBEL HBE5
                      go_upto_if 194 with fail
                      go_cut [29] from 191 to 198 (fun v wf => v = .int .u64 (d.sq i) ∧ wf = wc)
                      case first =>
                        by_cases h2l : i < l2
                        · obtain ⟨g2, o2, rfl, hg2, hc2⟩ := H2.out (by omega)
                          have hx : wc.cell? ⟨g2, o2 + i, none⟩ = some (.int .u64 (sv i)) := by
                            rw [HB6.out.cell (p := ⟨g2, o2 + i, none⟩) hg2]; exact hc2 i h2l
                          clear hc2
                          go_wp2_with fail
                          go_meet
                          case rel => exact ⟨by rw [HSQ.out, if_pos h2l], rfl⟩
                        · go_wp2_with fail
                          go_meet
                          case rel => exact ⟨by rw [HSQ.out, if_neg h2l], rfl⟩
                      case rest =>
                        obtain ⟨rfl, hw⟩ := hcut
                        subst hw
                        obtain ⟨gi, ci, hwc, hgi, hcl, hbs⟩ := HF6.out.ws_cell i hid
                        have hol := d.outs_length HG.out (i + 1) (by omega)
                        have hol2 : (d.outs (i + 1)).length = (d.outs i).length + ((d.wl i).length + 2) := by simp only [Data.outs, List.length_append, List.length_cons, List.length_nil]; omega
                        have hNw : N ≤ wc.heap.size := HF6.out.lt.2.2.2.2.2
                        obtain ⟨v1, X1, v2, X2, v3, X3, r1, r2, r3, hown, hk1, hk3, hnew3⟩ := app3 wc (B + 3) (pl.length + (d.outs i).length) gi 0 ci u24 (bytesV pl ++ bytesV (d.outs i)) (d.wl i) HROW6.out hcl (by omega) (fun e => by have := HNEW.out _ e; omega) (by omega) (by omega)
                        have hw1 : X1.cell? ⟨B + 1 + 1, i, none⟩ = some (.slice (some ⟨gi, 0, none⟩) (d.wl i).length ci) := by
                          rw [hk1.cell (p := ⟨B + 1 + 1, i, none⟩) (by show B + 1 + 1 < _; omega) (fun e => by have : N ≤ B + 1 + 1 := HNEW.out _ e; omega)]; exact hwc
                        have HR1 := hide r1
                        have HR2 := hide r2
                        have HR3 := hide r3
                        have HF7 := hide (HF6.out.kept hk3 (fun g hg => HNEW.out g hg))
                        have HB7 : Hid (Below w.heap.size w X3) := HB6.out.trans (hk3.below HB6.out.size (fun g hg => by have := HNEW.out g hg; rw [HBB.out]; omega))
                        have HO7 : Hid (X3.ownsRow (B + 3) 5 1 v3 (pl.length + (d.outs (i + 1)).length) (bytesV pl ++ bytesV (d.outs (i + 1)))) := by
                          have e1 : pl.length + (d.outs i).length + ([91] ++ d.wl i ++ [93]).length = pl.length + (d.outs (i + 1)).length := by rw [hol2]; simp only [List.length_append, List.length_cons, List.length_nil]; omega
                          have e2 : bytesV pl ++ bytesV (d.outs i) ++ bytesV ([91] ++ d.wl i ++ [93]) = bytesV pl ++ bytesV (d.outs (i + 1)) := by simp [Data.outs, bytesV]
                          rw [← e1, ← e2]; exact hown
                        have HN7 : Hid (∀ g, v3.ownBlock = some g → N ≤ g) := fun g hg => by
                          rcases hnew3 g hg with h | h
                          · exact HNEW.out g h
                          · omega
                        clear r1 r2 r3 hown hk1 hk3 hnew3 hcl hbs hol hol2 hwc HF6 HB6 HROW6
                        go_upto_region 59 with (first | (at_builtin; refine wpList_append_run rfl (.tmp 205) (.tmp 206) 25 25 25 rfl rfl _ _ rfl rfl _ _ HR1.out ?_) | (at_builtin; refine wpList_append_run rfl (.tmp 208) (.tmp 212) 25 25 25 rfl rfl _ _ rfl rfl _ _ HR2.out ?_) | (at_builtin; refine wpList_append_run rfl (.tmp 214) (.tmp 215) 25 25 25 rfl rfl _ _ rfl rfl _ _ HR3.out ?_))
                        go_roundw
                        case rel => exact ⟨i + 1, by omega, by omega, by go_num, HO7.out, HF7.out, HB7.out, HN7.out⟩
                        case measure => simp [intOf]; omega
              · obtain rfl : i = n := by omega
                have hkn' : k' = i := by omega
                have hokB : okB = true := by
                  cases hB : okB
                  · have := HF2.out hB; omega
                  · rfl
                subst hkn' hokB
                have HB1 := hide (bs_two HFIN.out.got)
                have HB2 := hide (bs_two HROW.out)
                go_wp2_with (go_at_call 6; refine (equal_any _ _ _ (pl ++ d.outs k') HB1.out HB2.out).mono ?_; rintro e w' ⟨rfl, rfl⟩)
                go_ret
                exact ⟨rfl, HBEL.out⟩
  · have hd0 : decide ((256 : Int) < (n : Int)) = true := decide_eq_true (by omega)
    go_enter Yba.func3, Yba.ntmps3
    go_wp2
    go_ret
    exact ⟨rfl, Below.refl _ _⟩
end Go.Proofs.Ybulkbhfk
