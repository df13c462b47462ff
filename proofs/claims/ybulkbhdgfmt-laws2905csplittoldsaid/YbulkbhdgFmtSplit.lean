import Derived.Test.YbulkbhdgFmtExact
namespace Go.Proofs.YbulkbhdgFmt
open Go.RowKit

/-! ### The days that LawS2905CSplit makes of its deltas -/
def curs (zs : List Int) : Nat → Nat
  | 0 => 0
  | k + 1 => min 365 (curs zs k + (zs.getD k 0 % 4).toNat)
theorem curs_le (zs : List Int) (k : Nat) : curs zs k ≤ 365 := by cases k <;> simp only [curs] <;> omega
theorem curs_step (zs : List Int) (k : Nat) : curs zs k ≤ curs zs (k + 1) := by have := curs_le zs k; simp only [curs]; omega
theorem curs_mono (zs : List Int) (i j : Nat) (h : i ≤ j) : curs zs i ≤ curs zs j := by
  induction h with
  | refl => exact Nat.le_refl _
  | step _ ih => exact Nat.le_trans ih (curs_step _ _)

/-- nums' block is B, y's block B + 1; the first k days are laid in both. -/
structure InvS (w : World) (B len k : Nat) (nums : Nat → Nat) (wr : World) : Prop where
  below : Below B w wr
  size : B + 1 < wr.heap.size
  ty : wr.there (B + 1) 0 (len * 7)
  tn : wr.there B 0 len
  cd : ∀ j, j < k → wr.cell? ⟨B + 1, j * 7, none⟩ = some (.string (dateS (nums j)))
  cs : ∀ j, j < k → wr.cell? ⟨B + 1, j * 7 + 6, none⟩ = some (.pointer none)
  cn : ∀ j, j < k → wr.cell? ⟨B, j, none⟩ = some (.int .i64 (nums j))

theorem invS_start (w : World) (CY CN : Array Value) (len : Nat) (nums : Nat → Nat) (h1 : CY.size = len * 7) (h2 : CN.size = len * 1) : InvS w w.heap.size len 0 nums ((w.alloc (.cells CN 3)).alloc (.cells CY 35)) := by
  refine ⟨((Below.refl _ _).alloc (Nat.le_refl _) _).alloc (by simp) _, by simp, ?_, ?_, fun j h => absurd h (Nat.not_lt_zero _), fun j h => absurd h (Nat.not_lt_zero _), fun j h => absurd h (Nat.not_lt_zero _)⟩
  · have := there_new (w.alloc (.cells CN 3)) CY 35
    rw [h1] at this
    simpa using this
  · have := World.there_alloc (there_new w CN 3) (.cells CY 35)
    rw [h2, Nat.mul_one] at this; exact this

/-- A call that turns nothing that was there. -/
theorem InvS.later {w : World} {B len k : Nat} {nums : Nat → Nat} {wr w2 : World} (h : InvS w B len k nums wr) (hb : Below wr.heap.size wr w2) : InvS w B len k nums w2 := by
  have hB1 := h.size
  refine ⟨h.below.trans (hb.mono (by omega)), Nat.lt_of_lt_of_le h.size hb.size, there_below h.ty h.size hb, there_below h.tn (by omega) hb, fun j hj => ?_, fun j hj => ?_, fun j hj => ?_⟩
  · rw [hb.cell (p := ⟨B + 1, j * 7, none⟩) hB1]; exact h.cd j hj
  · rw [hb.cell (p := ⟨B + 1, j * 7 + 6, none⟩) hB1]; exact h.cs j hj
  · rw [hb.cell (p := ⟨B, j, none⟩) (by show B < _; omega)]; exact h.cn j hj

theorem InvS.drew {w : World} {B len k : Nat} {nums : Nat → Nat} {wr : World} (h : InvS w B len k nums wr) : InvS w B len k nums wr.drew :=
  h.later ⟨rfl, rfl, rfl, Nat.le_refl _, fun _ _ => rfl⟩

/-- 'nums[k] = ..' -/
theorem InvS.num {w : World} {B len k : Nat} {nums : Nat → Nat} {wr : World} (h : InvS w B len k nums wr) (hk : k < len) : InvS w B len k nums (wr.setCell ⟨B, k, none⟩ (.int .i64 (nums k))) ∧ (wr.setCell ⟨B, k, none⟩ (.int .i64 (nums k))).cell? ⟨B, k, none⟩ = some (.int .i64 (nums k)) := by
  obtain ⟨u, hu⟩ := Option.isSome_iff_exists.1 (h.tn k hk).1
  rw [Nat.zero_add] at hu
  refine ⟨⟨h.below.setCell (Nat.le_refl _) _, by simpa [World.setCell] using h.size, there_setCell h.ty _ _, there_setCell h.tn _ _, fun j hj => ?_, fun j hj => ?_, fun j hj => ?_⟩, World.cell?_setCell_same _ _ _ hu⟩
  · rw [World.cell?_setCell_other _ _ _ _ (by simp)]; exact h.cd j hj
  · rw [World.cell?_setCell_other _ _ _ _ (by simp)]; exact h.cs j hj
  · rw [World.cell?_setCell_other _ _ _ _ (by intro e; injection e with e1 e2; omega)]; exact h.cn j hj

theorem InvS.num' {w : World} {B len k : Nat} {nums : Nat → Nat} {wr : World} (h : InvS w B len k nums wr) (hk : k < len) {x : Int} (hx : (nums k : Int) = x) : InvS w B len k nums (wr.setCell ⟨B, k, none⟩ (.int .i64 x)) ∧ (wr.setCell ⟨B, k, none⟩ (.int .i64 x)).cell? ⟨B, k, none⟩ = some (.int .i64 (nums k)) := by
  subst hx; exact h.num hk

/-- 'y[k] = Yield{Date: ..}' -/
theorem InvS.yield {w : World} {B len k : Nat} {nums : Nat → Nat} {wr : World} (h : InvS w B len k nums wr) (hk : k < len) (hn : wr.cell? ⟨B, k, none⟩ = some (.int .i64 (nums k))) (x1 x2 x3 x4 x5 : Value) :
    InvS w B len (k + 1) nums (wr.setCells (B + 1) (k * 7) [.string (dateS (nums k)), x1, x2, x3, x4, x5, .pointer none]) := by
  have ht : wr.there (B + 1) (k * 7) 7 := fun j hj => by have := h.ty (k * 7 + j) (by omega); rwa [Nat.zero_add] at this
  have hsame := World.rangeAt_setCells_same wr (B + 1) (k * 7) [.string (dateS (nums k)), x1, x2, x3, x4, x5, .pointer none] ht
  have hout : ∀ (b o : Nat), (b ≠ B + 1 ∨ o < k * 7 ∨ k * 7 + 7 ≤ o) → (wr.setCells (B + 1) (k * 7) [.string (dateS (nums k)), x1, x2, x3, x4, x5, .pointer none]).cell? ⟨b, o, none⟩ = wr.cell? ⟨b, o, none⟩ := fun b o hap =>
    World.cell?_setCells_out (B + 1) _ (k * 7) wr ⟨b, o, none⟩ (fun hb _ => by
      have hb : b = B + 1 := hb
      rcases hap with hap | hap | hap
      · exact absurd hb hap
      · left; exact hap
      · right; exact hap)
  refine ⟨?_, ?_, World.there_setCells h.ty _ _ _, World.there_setCells h.tn _ _ _, fun j hj => ?_, fun j hj => ?_, fun j hj => ?_⟩
  · simp only [World.setCells]
    have hle : B ≤ B + 1 := by omega
    exact (((((((h.below.setCell hle _).setCell hle _).setCell hle _).setCell hle _).setCell hle _).setCell hle _).setCell hle _)
  · simpa [World.setCells, World.setCell] using h.size
  · rcases Nat.lt_succ_iff_lt_or_eq.1 hj with h1 | rfl
    · rw [hout _ _ (by omega)]; exact h.cd j h1
    · exact hsame 0 _ rfl
  · rcases Nat.lt_succ_iff_lt_or_eq.1 hj with h1 | rfl
    · rw [hout _ _ (by omega)]; exact h.cs j h1
    · exact hsame 6 _ rfl
  · rw [hout _ _ (by omega)]
    rcases Nat.lt_succ_iff_lt_or_eq.1 hj with h1 | rfl
    · exact h.cn j h1
    · exact hn

theorem raw8 {w : World} {a0 : Option Addr} {len cap : Nat} {zs : List Int} (w0 : IsRow .u8 w a0 len cap zs) (k : Nat) (hk : k < len) :
    ∃ b o, a0 = some ⟨b, o, none⟩ ∧ b < w.heap.size ∧ w.cell? ⟨b, o + k, none⟩ = some (.int .u8 (zs.getD k 0)) ∧ 0 ≤ zs.getD k 0 ∧ zs.getD k 0 ≤ 255 := by
  rcases w0 with ⟨_, rfl, _, _⟩ | ⟨x, rfl, hl, _, hz, hc, hw⟩
  · omega
  · obtain ⟨b, o, rfl, hc'⟩ := ints_at hc (by omega)
    have := hc' k (by omega)
    have hr := range_u8 hw k
    rw [← List.getD_eq_getElem?_getD] at hr
    exact ⟨b, o, rfl, World.block_lt_of_cell? w _ this, this, hr.1, hr.2⟩

abbrev SSplit (w : World) (B len i : Nat) (nums : Nat → Nat) (w' : World) : Prop :=
  InvS w B len len nums w' ∧ w'.cell? ⟨B + 1, i * 7, none⟩ = some (.string (dateS (nums i))) ∧ w'.cell? ⟨B, i, none⟩ = some (.int .i64 (nums i))
theorem SSplit.mk {w : World} {B len i : Nat} {nums : Nat → Nat} {w' : World} (h : InvS w B len len nums w') (hi : i < len) : SSplit w B len i nums w' := ⟨h, h.cd i hi, h.cn i hi⟩
theorem SSplit.later {w : World} {B len i : Nat} {nums : Nat → Nat} {w' w2 : World} (h : InvS w B len len nums w') (hi : i < len) (hb : Below w'.heap.size w' w2) : SSplit w B len i nums w2 := .mk (h.later hb) hi

theorem date_at (x : Int) (n : Nat) (w : World) (hn : n ≤ 365) (hx : x = n) :
    Calls Ybaf.prog 5 #[.int .i64 x] w fun e w' => e = .returned (.string (dateS n)) ∧ Below w.heap.size w w' := by
  subst hx; exact date_any n w hn

set_option maxHeartbeats 1600000 in
theorem split_walk (a0 : Option Addr) (len cap : Nat) (zs : List Int) (d : Int) (w : World) (w0 : IsRow .u8 w a0 len cap zs) (w1 : 0 ≤ d ∧ d ≤ 255) :
    Calls Ybaf.prog 4 #[.slice a0 len cap, .int .u8 d] w fun e w' => e = .returned (.bool true) ∧ Below w.heap.size w w' := by
  by_cases hlen : len ≤ 1024
  · obtain ⟨CY, hCY, hmY⟩ := make_any 25 35 7 80 len Ybaf.underlying25 info35 hlen (by omega)
    obtain ⟨CN, hCN, hmN⟩ := make_any 26 3 1 8 len Ybaf.underlying26 info3 hlen (by omega)
    obtain ⟨nums, hnums⟩ : ∃ nums : Nat → Nat, nums = fun k => curs zs (k + 1) := ⟨_, rfl⟩
    have hnle : ∀ k, nums k ≤ 365 := fun k => by rw [hnums]; exact curs_le _ _
    have hmono : ∀ i j, i ≤ j → nums i ≤ nums j := fun i j h => by rw [hnums]; exact curs_mono _ _ _ (by omega)
    have hstep : ∀ k, nums k = min 365 (curs zs k + (zs.getD k 0 % 4).toNat) := fun k => by rw [hnums]; rfl
    have hnx : ∀ k, curs zs (k + 1) = nums k := fun k => by rw [hnums]
    have hcle := curs_le zs
    have HNX := hide hnx
    have HST := hide hstep
    have HMO := hide hmono
    have HNL := hide hnle
    have HCL := hide hcle
    have h00 : curs zs 0 = 0 := rfl
    have H00 := hide h00
    have HR := hide (raw8 w0)
    have INV := hide (invS_start w CY CN len nums hCY hCN)
    have hd0 : decide ((1024 : Int) < (len : Int)) = false := decide_eq_false (by omega)
    clear hCY hCN hnums hnle hmono hstep hnx hcle h00 w0
    generalize curs zs = cur at *
    go_enter Ybaf.func4, Ybaf.ntmps4
    go_wp2
    generalize (w.alloc (.cells CN 3)).alloc (.cells CY 35) = W at *
    generalize hBB : w.heap.size = B at *
    have HBB := hide hBB
    clear hBB
    clear hmY hmN
    go_loopw [7, 26] (fun c i wr => ∃ k : Nat, k ≤ len ∧ i = .int .i64 k ∧ c = .int .i64 (cur k) ∧ InvS w B len k nums wr) (fun _ i _ => len - (intOf i).toNat)
    case atStart => exact ⟨0, by omega, rfl, by rw [H00.out]; rfl, INV.out⟩
    case round =>
      obtain ⟨k, hk, rfl, rfl, hinv⟩ := hrel
      clear INV
      have HI := hide hinv
      clear hinv
      have hcl := HCL.out k
      by_cases hlt : k < len
      · obtain ⟨rb, ro, rfl, hrb, hrc, hz0, hz1⟩ := HR.out k hlt
        have hrc' : wr.cell? ⟨rb, ro + k, none⟩ = some (.int .u8 (zs.getD k 0)) := by rw [HI.out.below.cell (p := ⟨rb, ro + k, none⟩) hrb]; exact hrc
        have hnk := hide (HST.out k)
        have hle := HNL.out k
        have hnx := hide (HNX.out k)
        obtain ⟨u, hu⟩ := Option.isSome_iff_exists.1 (HI.out.tn k hlt).1
        have hfr := (HI.out.tn k hlt).2
        rw [Nat.zero_add] at hu hfr
        clear hrc
        generalize zs.getD k 0 = z at *
        generalize cur k = c at *
        have hnI : (nums k : Int) = if 365 < (c : Int) + z % 4 then 365 else (c : Int) + z % 4 := by
          rw [hnk.out]; split <;> omega
        have HNI := hide hnI
        clear hnI hnk
        by_cases hgt : 365 < (c : Int) + z % 4
        all_goals
          have e1 : (nums k : Int) = _ := HNI.out
          first | rw [if_pos hgt] at e1 | rw [if_neg hgt] at e1
          have E1 := hide e1
          clear e1 HNI
          go_upto_region 13 with fail
        all_goals
          obtain ⟨hi2, hcn⟩ := HI.out.num' hlt E1.out
          have HI2 := hide hi2
          have HCN := hide hcn
          clear HI hu hfr hrc' hi2 hcn
          have hB1 := HI2.out.size
          generalize wr.setCell ⟨B, k, none⟩ _ = wr2 at *
          go_wp2_with (go_at_call 5; refine (date_at _ (nums k) _ hle E1.out.symm).mono ?_; rintro e w2 ⟨rfl, hb2⟩; have I3 := hide (HI2.out.later hb2); have hcn2 := hide ((hb2.cell (p := ⟨B, k, none⟩) (Nat.lt_of_succ_lt hB1)).trans HCN.out); obtain ⟨u0, u1, u2, u3, u4, u5, u6, g0, g1, g2, g3, g4, g5, g6, f0, f1, f2, f3, f4, f5, f6⟩ := seven I3.out.ty hlt; clear hb2 HI2)
          go_roundw
          case rel => exact ⟨k + 1, by omega, by go_num, by rw [hnx.out, E1.out], I3.out.yield hlt hcn2.out _ _ _ _ _⟩
          case measure => simp [intOf]; omega
      · obtain rfl : len = k := by omega
        clear HR hk HNX HST H00
        obtain ⟨dn, hdn⟩ : ∃ dn : Nat, (dn : Int) = if 365 < (cur len : Int) + d % 10 then 365 else (cur len : Int) + d % 10 := ⟨min 365 (cur len + (d % 10).toNat), by split <;> omega⟩
        have hdle : dn ≤ 365 := by split at hdn <;> omega
        have HD := hide hdn
        clear hdn
        generalize cur len = c at *
        by_cases hgt : 365 < (c : Int) + d % 10
        all_goals
          have e1 : (dn : Int) = _ := HD.out
          first | rw [if_pos hgt] at e1 | rw [if_neg hgt] at e1
          have E1 := hide e1
          clear e1 HD
          go_wp2_with fail
          refine (date_at _ dn _ hdle E1.out.symm).mono ?_
          rintro e w3 ⟨rfl, hb3⟩
          have I3 := hide (HI.out.later hb3)
          clear hb3 HI
          go_wp2_with fail
          refine (from_any (B + 1) len nums dn _ hlen hdle (fun j _ => HNL.out j) I3.out.cd).mono ?_
          rintro e w4 ⟨⟨k', a', hf', rfl, ha'⟩, rfl⟩
          have HF := hide hf'
          have hkl := hf'.1
          have HA' := hide ha'
          clear ha' hf'
          generalize hm : len - k' = m at *
          have hm1 : m + k' ≤ len := by omega
          have hm2 : len ≤ m + k' := by omega
          have hcut : (len : Int) - (m : Int) = (k' : Int) := by omega
          clear hm
          have hk0 : decide ((k' : Int) < 0) = false := decide_eq_false (by omega)
          have hk1 : decide (len < k') = false := decide_eq_false (by omega)
          have hk2 : decide ((len : Int) < (k' : Int)) = false := decide_eq_false (by omega)
          go_wp2_with fail
          go_loop [13] (fun t => ∃ i : Nat, i ≤ k' ∧ t = .int .i64 i) (fun t => k' - (intOf t).toNat)
          case atStart => exact ⟨0, by omega, rfl⟩
          case round =>
            obtain ⟨i, hi, rfl⟩ := hrel
            by_cases hik : i < k'
            · have hci := I3.out.cn i (by omega)
              have hni := HNL.out i
              have h7 : 7 ≤ (dn : Int) - nums i := HF.out.2.1 i hik
              rw [E1.out] at h7
              go_wp2
              go_round
              case rel => exact ⟨i + 1, by omega, by go_num⟩
              case measure => simp [intOf]; omega
            · go_wp2_with fail
              go_loopw [14] (fun t wr => ∃ i : Nat, k' ≤ i ∧ i ≤ len ∧ t = .int .i64 i ∧ InvS w B len len nums wr) (fun t _ => len - (intOf t).toNat)
              case atStart => exact ⟨k', by omega, by omega, rfl, I3.out⟩
              case round =>
                obtain ⟨i, hki, hil, rfl, hinv⟩ := hrel
                have HJ := hide hinv
                clear hinv I3
                by_cases hlt : i < len
                · obtain rfl := HA'.out (by omega)
                  have hci := HJ.out.cn i hlt
                  have hni := HNL.out i
                  have hmo := HMO.out k' i hki
                  have h7 : ¬ 7 ≤ (dn : Int) - nums k' := HF.out.2.2 (by omega)
                  rw [E1.out] at h7
                  have b0 : (0 : Int) ≤ i := by omega
                  have b1 : (i : Int) < len := by omega
                  have b2 : (0 : Int) ≤ (i : Int) - k' := by omega
                  have b3 : (i : Int) - k' < m := by omega
                  have b4 : ((i : Int) - (k' : Int)).toNat = i - k' := by omega
                  have b5 : IntKind.i64.wrap ((i : Int) - (k' : Int)) = (i : Int) - k' := by rw [IntKind.wrap_i64]; omega
                  have b6 : k' * 7 + (i - k') * 7 = i * 7 := by omega
                  have hS := SSplit.mk HJ.out.drew hlt
                  go_wp2_with fail
                  go_region_held3 (fun w' => InvS w B len len nums w' ∧ w'.cell? ⟨B + 1, i * 7, none⟩ = some (.string (dateS (nums i))) ∧ w'.cell? ⟨B, i, none⟩ = some (.int .i64 (nums i))) (assumption)
                    (first | (go_at_call 5; refine (date_any (nums i) _ hni).mono ?_; rintro e w2 ⟨rfl, hb2⟩; have hS2 := SSplit.later hS.1 hlt hb2))
                  go_wp2
                  go_roundw
                  case rel => exact ⟨i + 1, by omega, by omega, by go_num, hS2.1⟩
                  case measure => simp [intOf]; omega
                · go_wp2
                  go_ret
                  exact ⟨rfl, HBB.out.symm ▸ HJ.out.below⟩
  · go_enter Ybaf.func4, Ybaf.ntmps4
    go_wp2
    go_ret
    exact ⟨rfl, Below.refl _ _⟩
end Go.Proofs.YbulkbhdgFmt
