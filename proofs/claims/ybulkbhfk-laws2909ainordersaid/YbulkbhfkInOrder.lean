import Derived.Test.YbulkbhfkOrder
namespace Go.Proofs.Ybulkbhfk
open Go.RowKit Go.Maps

theorem befA_eq (d : Data) (gW cW : Nat) : ∀ i, ∃ n c, d.bef gW cW i = .slice (d.befA gW i) n c
  | 0 => ⟨0, 0, rfl⟩
  | _ + 1 => ⟨_, _, rfl⟩

theorem three_cells {w : World} {g : Nat} {a b c : Value} {t : TypeId} (h : w.heap[g]? = some (.cells #[a, b, c] t (0, 0))) : w.cell? ⟨g, 0, none⟩ = some a ∧ w.cell? ⟨g, 1, none⟩ = some b ∧ w.cell? ⟨g, 2, none⟩ = some c := by
  simp only [World.cell?, h]; exact ⟨rfl, rfl, rfl⟩

theorem Prog.drew {d : Data} {W : World} {base Bl nb gW cW : Nat} {vb vL : Value} {xb : List Value} {k : Nat} {vb' vL' : Value} {W' : World} (h : Prog d W base Bl nb gW cW vb vL xb k vb' vL' W') : Prog d W base Bl nb gW cW vb vL xb k vb' vL' W'.drew :=
  ⟨h.b, h.lc, h.l, h.kept.drew, h.nb', h.nl'⟩
theorem cv_eq {x : DataW Unit} {a b : Int} (h : x = .lit (.int .u64 a)) (h' : x = .lit (.int .u64 b)) : a = b := by
  rw [h] at h'; injection h' with h'; injection h'

set_option maxHeartbeats 1000000 in
theorem inOrder_any (d : Data) (hd : d.Good) (W : World) (Bo Bm gO gW gE cO cW cE base Bl nb : Nat) (vO vW vE vb vL : Value) (xb : List Value) (hS : Stat d W Bo Bm gO gW gE cO cW cE vO vW vE)
    (hb : W.ownsRow base 5 1 vb nb xb) (hLc : W.heap[Bl]? = some (.cells #[vL] 34 (0, 0))) (hL : W.ownsRow base 36 4 vL 0 [])
    (nB : ¬ (Bo = Bl ∨ vb.ownBlock = some Bo ∨ vL.ownBlock = some Bo)) (nM : ¬ (Bm = Bl ∨ vb.ownBlock = some Bm ∨ vL.ownBlock = some Bm)) (nr : 0 < d.n → ¬ (gO = Bl ∨ vb.ownBlock = some gO ∨ vL.ownBlock = some gO) ∧ ¬ (gW = Bl ∨ vb.ownBlock = some gW ∨ vL.ownBlock = some gW) ∧ ¬ (gE = Bl ∨ vb.ownBlock = some gE ∨ vL.ownBlock = some gE))
    (hnb : nb ≤ 140737488355328) (hbase : base ≤ W.heap.size) :
    Calls Yba.prog 5 #[.pointer (some ⟨Bo, 0, none⟩), vb, .map (some Bm), .func (.func 4) #[] #[.pointer (some ⟨Bl, 0, none⟩)]] W (OrderEnds d W base Bl nb gW cW vb vL xb) := by
  obtain ⟨o0, o1, o2⟩ := three_cells hS.fo
  obtain ⟨aO, rfl, hO⟩ := hS.fO
  obtain ⟨aW, rfl, hW⟩ := hS.fW
  obtain ⟨aE, rfl, hE⟩ := hS.fE
  have P0 : Hid (Prog d W base Bl nb gW cW vb vL xb 0 vb vL W) := ⟨by simpa [Data.outs, bytesV] using hb, hLc, hL, Kept.refl _ _, fun g h => .inl h, fun g h => .inl h⟩
  have n256 := hd.n256
  have HS := hide hS
  have HO := hide hO
  have HW := hide hW
  have HE := hide hE
  have NB := hide nB
  have NM := hide nM
  have NR := hide nr
  clear hS hO hW hE nB nM nr hb hLc hL
  go_enter Yba.func5, Yba.ntmps5
  go_wp2_with fail
  go_loopw [1, 10, 11, 22] (fun vb1 bf s i wr => ∃ k vL1, k ≤ d.n ∧ i = .int .i64 k ∧ s = .int .i64 (d.st k) ∧ bf = d.bef gW cW k ∧ (∀ i, i < k → d.ok i = true) ∧ Prog d W base Bl nb gW cW vb vL xb k vb1 vL1 wr) (fun _ _ _ i _ => d.n - (intOf i).toNat)
  case atStart => exact ⟨0, vL, Nat.zero_le _, rfl, by rw [hd.st0]; rfl, rfl, fun i h => absurd h (Nat.not_lt_zero _), P0.out⟩
  case round =>
    obtain ⟨k, vL1, hk, rfl, rfl, rfl, hall, hp⟩ := hrel
    clear P0
    have hS1 := HS.out.kept hp.kept NB.out NM.out NR.out
    have HP := hide hp
    have HALL := hide hall
    clear hp hall
    by_cases hlt : k < d.n
    · have h0 : 0 < d.n := by omega
      obtain rfl := HO.out h0
      obtain rfl := HW.out h0
      obtain rfl := HE.out h0
      have hxO := hS1.xO k hlt
      have hxE := hS1.xE k hlt
      obtain ⟨p0, p1, p2⟩ := three_cells hS1.fo
      obtain ⟨cnt, D, hmap, hD⟩ := hS1.map
      obtain ⟨hhas, hat⟩ := hD k hlt
      have hkey : keyOf Yba.prog 9 (.string (d.org k)) = some (d.key k) := Go.WideMaps.keyOf_string_mk Yba.underlying9 (by have := hd.orgM k hlt; unfold maxLen; omega)
      have HKEY := hide hkey
      have HMAP := hide hmap
      have HAT := hide hat
      have hS1' := hide hS1
      clear hkey hmap hat hD hS1
      cases hok : d.ok k
      · rw [hok] at hhas
        go_wp2_with (at_lookup; refine wpList_lookup_own_ok_int _ rfl (.tmp 28) (.tmp 29) 31 rfl 9 33 .u64 law Yba.underlying31 Yba.underlying33 (zeroE _) Bm cnt D rfl HMAP.out _ _ rfl HKEY.out ?_; intro cv hatc hwc; clear hatc hwc)
        go_ret2
        exact ⟨k, _, vL1, false, rfl, hk, HALL.out, (fun h => by cases h), (fun _ => ⟨hlt, hok⟩), HP.out⟩
      · rw [hok] at hhas
        have HAT' := hide (HAT.out hok)
        clear HAT
        go_upto_region 9 with (at_lookup; refine wpList_lookup_own_ok_int _ rfl (.tmp 28) (.tmp 29) 31 rfl 9 33 .u64 law Yba.underlying31 Yba.underlying33 (zeroE _) Bm cnt D rfl HMAP.out _ _ rfl HKEY.out ?_; intro cv hatc hwc; have hcv := cv_eq hatc HAT'.out; clear hatc hwc; subst hcv)
        have hst1 := hd.stS k
        have hwlp := hd.wlP k
        have hmon := hd.st_mono d.n (k + 1) (by omega)
        have hcap := HS.out.capW
        have b1 : (0 : Int) ≤ (d.st k : Int) := by omega
        have b2 : (d.st k : Int) ≤ (d.st (k + 1) : Int) := by omega
        have b3 : (d.st (k + 1) : Int) ≤ (cW : Int) := by omega
        have b4 : ¬ (cW - d.st k = 0) := by omega
        have b5 : d.st (k + 1) - d.st k = (d.wl k).length := by omega
        have b6 : (0 : Int) ≤ (k : Int) := by omega
        have b7 : (k : Int) < (d.n : Int) := by omega
        have b8 : ¬ (cW ≤ d.st k) := by omega
        have HST := hide hst1
        clear hst1
        go_region_held3 (fun w' => w'.cell? ⟨Bo, 1, none⟩ = some (.slice (some ⟨gW, 0, none⟩) (d.st d.n) cW) ∧ w'.cell? ⟨Bo, 2, none⟩ = some (.slice (some ⟨gE, 0, none⟩) d.n cE) ∧ w'.cell? ⟨gE, k, none⟩ = some (.int .i64 (d.st (k + 1)))) (go_keep) (fail)
        go_wp2_with fail
        have hpd := HP.out.drew
        have hSd := HS.out.kept hpd.kept NB.out NM.out NR.out
        obtain ⟨nB, cB, hbf⟩ := befA_eq d gW cW k
        have hent := entry_any wr.drew base Bl (nb + (d.outs k).length) k u1 vL1 (d.befA gW k) nB cB (xb ++ bytesV (d.outs k)) (d.logs gW cW k) gW (d.st k) (cW - d.st k) (d.wl k) (d.sq k) hpd.b hpd.lc hpd.l (hSd.xW k hlt) (hSd.lt.2.2 h0).2.1
          (fun h => (NR.out h0).2.1 (.inl h)) (fun h => by
            rcases hpd.nb' gW h with h' | h'
            · exact (NR.out h0).2.1 (.inr (.inl h'))
            · exact absurd (HS.out.lt.2.2 h0).2.1 (by omega)) (fun h => by
            rcases hpd.nl' gW h with h' | h'
            · exact (NR.out h0).2.1 (.inr (.inr h'))
            · exact absurd (HS.out.lt.2.2 h0).2.1 (by omega)) (by have := d.outs_length hd k hk; have := hd.wlM k hlt; omega) (by omega) (Nat.le_trans hbase hpd.kept.size)
        rw [hbf]
        refine hent.mono ?_
        intro e w2 hend
        have hen : [Value.slice (d.befA gW k) nB cB, .slice (some ⟨gW, d.st k, none⟩) (d.wl k).length (cW - d.st k), .bool (d.befA gW k).isNone, .int .u64 (d.sq k)] = d.entry gW cW k := by unfold Data.entry; rw [hbf]; rfl
        rw [hen] at hend
        obtain ⟨vb2, vL2, rfl, hp2⟩ := entry_step hpd hend
        have hS2 := HS.out.kept hp2.kept NB.out NM.out NR.out
        obtain ⟨q0, q1, q2⟩ := three_cells hS2.fo
        have hxE2 := hS2.xE k hlt
        have HP2 := hide hp2
        clear hent hend hen hpd hSd hp2 hS2 p0 p1 p2 hxE hxO hbf
        go_wp2_with fail
        go_region_held3 (fun w' => w'.cell? ⟨Bo, 2, none⟩ = some (.slice (some ⟨gE, 0, none⟩) d.n cE) ∧ w'.cell? ⟨gE, k, none⟩ = some (.int .i64 (d.st (k + 1)))) (go_keep) (fail)
        go_wp2_with fail
        go_roundw
        case rel => exact ⟨k + 1, vL2, by omega, by go_num, rfl, rfl, fun i hi => by
          rcases Nat.lt_succ_iff_lt_or_eq.1 hi with h | rfl
          · exact HALL.out i h
          · exact hok, HP2.out.drew⟩
        case measure => simp [intOf]; omega
    · obtain rfl : k = d.n := by omega
      go_wp2_with fail
      go_ret2
      exact ⟨d.n, _, vL1, true, rfl, Nat.le_refl _, HALL.out, (fun _ => rfl), (fun h => by cases h), HP.out⟩
end Go.Proofs.Ybulkbhfk
