import Derived.Test.YbulkbhdgFmtFrom
import Derived.Deep.MidRow
import Derived.Deep.RegionHeld3
import Derived.Deep.DrawnRows
import Derived.OpenShut
import Derived.LaidEqlPtr
import Derived.BigQuiet
import Derived.Deep.QuietTactic
import Derived.Deep.CutBlock
namespace Go.Proofs.YbulkbhdgFmt
open Go.RowKit

/-- WHAT THE WALK IS TOLD OF A SLICE OF INTEGERS THAT CAME IN. -/
def IsRow (k : IntKind) (w : World) (a : Option Addr) (len cap : Nat) (zs : List Int) : Prop :=
  (a = none ∧ len = 0 ∧ cap = 0 ∧ zs = []) ∨
  ∃ x, a = some x ∧ len ≤ cap ∧ cap ≤ maxLen ∧ zs.length = cap ∧ (∀ i, i < zs.length → w.cell? (x.add i) = some (.int k (zs.getD i 0))) ∧ ∀ n ∈ zs, (Lit.int k n).wf = true

theorem there_new (w : World) (C : Array Value) (e : TypeId) : (w.alloc (.cells C e)).there w.heap.size 0 C.size := fun j hj => by
  have hh : (w.alloc (.cells C e)).heap[w.heap.size]? = some (.cells C e) := heap_alloc_new w _
  simp only [World.cell?, World.frozen?, hh]
  simp [hj]

theorem info35 : (Ybaf.prog.info? 35).map (fun i => (i.zero.isSome, i.size, i.bytes)) = some (true, 7, 80) := by kernel_rfl
theorem info3 : (Ybaf.prog.info? 3).map (fun i => (i.zero.isSome, i.size, i.bytes)) = some (true, 1, 8) := by kernel_rfl

/-- 'make([]T, n)': a new block of n * size cells. -/
theorem make_any (t e size bytes n : Nat) (hu : Ybaf.prog.underlying t = some (.slice e)) (hi : (Ybaf.prog.info? e).map (fun i => (i.zero.isSome, i.size, i.bytes)) = some (true, size, bytes)) (hn : n ≤ 1024) (hb : bytes ≤ 1000) :
    ∃ C : Array Value, C.size = n * size ∧ ∀ w : World, (Instr.makeSlice t (.int .i64 n) (.int .i64 n)).run Ybaf.prog w = .ok (.slice (some ⟨w.heap.size, 0, none⟩) n n) (w.alloc (.cells C e)) := by
  obtain ⟨i, hi1, hi2⟩ := Option.map_eq_some_iff.1 hi
  simp only [Prod.mk.injEq] at hi2
  obtain ⟨hz, hs, hbb⟩ := hi2
  obtain ⟨z, hz⟩ := Option.isSome_iff_exists.1 hz
  refine ⟨madeCells z.cells (n * size), size_madeCells _ _, fun w => ?_⟩
  have hbn : bytes * n ≤ 1000 * 1024 := Nat.mul_le_mul hb hn
  have hbi : (i.bytes : Int) * (n : Int) ≤ 281474976710656 := by
    rw [hbb, ← Int.natCast_mul]; omega
  have := run_make (P := Ybaf.prog) w t e i z hu hi1 hz .i64 .i64 n n (by omega) (by omega) hbi (by omega)
  simpa [hs] using this

/-- y's block is B, nums' block B + 1; the first k days are laid in both. -/
structure Inv (w : World) (B len k : Nat) (nums : Nat → Nat) (wr : World) : Prop where
  below : Below B w wr
  size : B + 1 < wr.heap.size
  ty : wr.there B 0 (len * 7)
  tn : wr.there (B + 1) 0 len
  cd : ∀ j, j < k → wr.cell? ⟨B, j * 7, none⟩ = some (.string (dateS (nums j)))
  cs : ∀ j, j < k → wr.cell? ⟨B, j * 7 + 6, none⟩ = some (.pointer none)
  cn : ∀ j, j < k → wr.cell? ⟨B + 1, j, none⟩ = some (.int .i64 (nums j))

theorem inv_start (w : World) (CY CN : Array Value) (len : Nat) (nums : Nat → Nat) (h1 : CY.size = len * 7) (h2 : CN.size = len * 1) : Inv w w.heap.size len 0 nums ((w.alloc (.cells CY 35)).alloc (.cells CN 3)) := by
  refine ⟨((Below.refl _ _).alloc (Nat.le_refl _) _).alloc (by simp) _, by simp, ?_, ?_, fun j h => absurd h (Nat.not_lt_zero _), fun j h => absurd h (Nat.not_lt_zero _), fun j h => absurd h (Nat.not_lt_zero _)⟩
  · have := World.there_alloc (there_new w CY 35) (.cells CN 3)
    rw [h1] at this; exact this
  · have := there_new (w.alloc (.cells CY 35)) CN 3
    rw [h2, Nat.mul_one] at this
    simpa using this

theorem there_below {w w2 : World} {b o n : Nat} (h : w.there b o n) (hb : b < w.heap.size) (hw : Below w.heap.size w w2) : w2.there b o n := fun j hj => by
  rw [hw.cell (p := ⟨b, o + j, none⟩) hb, hw.frozen (p := ⟨b, o + j, none⟩) hb]; exact h j hj

/-- A call that turns nothing that was there. -/
theorem Inv.later {w : World} {B len k : Nat} {nums : Nat → Nat} {wr w2 : World} (h : Inv w B len k nums wr) (hb : Below wr.heap.size wr w2) : Inv w B len k nums w2 := by
  have hB1 := h.size
  refine ⟨h.below.trans (hb.mono (by omega)), Nat.lt_of_lt_of_le h.size hb.size, there_below h.ty (by omega) hb, there_below h.tn h.size hb, fun j hj => ?_, fun j hj => ?_, fun j hj => ?_⟩
  · rw [hb.cell (p := ⟨B, j * 7, none⟩) (by show B < _; omega)]; exact h.cd j hj
  · rw [hb.cell (p := ⟨B, j * 7 + 6, none⟩) (by show B < _; omega)]; exact h.cs j hj
  · rw [hb.cell (p := ⟨B + 1, j, none⟩) hB1]; exact h.cn j hj

theorem Inv.drew {w : World} {B len k : Nat} {nums : Nat → Nat} {wr : World} (h : Inv w B len k nums wr) : Inv w B len k nums wr.drew :=
  h.later ⟨rfl, rfl, rfl, Nat.le_refl _, fun _ _ => rfl⟩

theorem there_setCell {w : World} {b o n : Nat} (h : w.there b o n) (a : Addr) (v : Value) : (w.setCell a v).there b o n := fun j hj => by
  refine ⟨?_, ?_⟩
  · obtain ⟨u, hu⟩ := Option.isSome_iff_exists.1 (h j hj).1
    by_cases e : a = ⟨b, o + j, none⟩
    · subst e; rw [World.cell?_setCell_same _ _ _ hu]; rfl
    · rw [World.cell?_setCell_other _ _ _ _ e, hu]; rfl
  · rw [World.frozen?_setCell]; exact (h j hj).2

/-- 'nums[k] = ..' -/
theorem Inv.num {w : World} {B len k : Nat} {nums : Nat → Nat} {wr : World} (h : Inv w B len k nums wr) (hk : k < len) : Inv w B len k nums (wr.setCell ⟨B + 1, k, none⟩ (.int .i64 (nums k))) ∧ (wr.setCell ⟨B + 1, k, none⟩ (.int .i64 (nums k))).cell? ⟨B + 1, k, none⟩ = some (.int .i64 (nums k)) := by
  obtain ⟨u, hu⟩ := Option.isSome_iff_exists.1 (h.tn k hk).1
  rw [Nat.zero_add] at hu
  refine ⟨⟨h.below.setCell (by show B ≤ B + 1; omega) _, by simpa [World.setCell] using h.size, there_setCell h.ty _ _, there_setCell h.tn _ _, fun j hj => ?_, fun j hj => ?_, fun j hj => ?_⟩, World.cell?_setCell_same _ _ _ hu⟩
  · rw [World.cell?_setCell_other _ _ _ _ (by simp)]; exact h.cd j hj
  · rw [World.cell?_setCell_other _ _ _ _ (by simp)]; exact h.cs j hj
  · rw [World.cell?_setCell_other _ _ _ _ (by intro e; injection e with e1 e2; omega)]; exact h.cn j hj

theorem seven {w : World} {B len k : Nat} (h : w.there B 0 (len * 7)) (hk : k < len) : ∃ u0 u1 u2 u3 u4 u5 u6, w.cell? ⟨B, k * 7, none⟩ = some u0 ∧ w.cell? ⟨B, k * 7 + 1, none⟩ = some u1 ∧ w.cell? ⟨B, k * 7 + 2, none⟩ = some u2 ∧ w.cell? ⟨B, k * 7 + 3, none⟩ = some u3 ∧ w.cell? ⟨B, k * 7 + 4, none⟩ = some u4 ∧ w.cell? ⟨B, k * 7 + 5, none⟩ = some u5 ∧ w.cell? ⟨B, k * 7 + 6, none⟩ = some u6 ∧ w.frozen? ⟨B, k * 7, none⟩ = false ∧ w.frozen? ⟨B, k * 7 + 1, none⟩ = false ∧ w.frozen? ⟨B, k * 7 + 2, none⟩ = false ∧ w.frozen? ⟨B, k * 7 + 3, none⟩ = false ∧ w.frozen? ⟨B, k * 7 + 4, none⟩ = false ∧ w.frozen? ⟨B, k * 7 + 5, none⟩ = false ∧ w.frozen? ⟨B, k * 7 + 6, none⟩ = false := by
  obtain ⟨h0, f0⟩ := h (k * 7) (by omega)
  obtain ⟨u0, h0⟩ := Option.isSome_iff_exists.1 h0
  obtain ⟨h1, f1⟩ := h (k * 7 + 1) (by omega)
  obtain ⟨u1, h1⟩ := Option.isSome_iff_exists.1 h1
  obtain ⟨h2, f2⟩ := h (k * 7 + 2) (by omega)
  obtain ⟨u2, h2⟩ := Option.isSome_iff_exists.1 h2
  obtain ⟨h3, f3⟩ := h (k * 7 + 3) (by omega)
  obtain ⟨u3, h3⟩ := Option.isSome_iff_exists.1 h3
  obtain ⟨h4, f4⟩ := h (k * 7 + 4) (by omega)
  obtain ⟨u4, h4⟩ := Option.isSome_iff_exists.1 h4
  obtain ⟨h5, f5⟩ := h (k * 7 + 5) (by omega)
  obtain ⟨u5, h5⟩ := Option.isSome_iff_exists.1 h5
  obtain ⟨h6, f6⟩ := h (k * 7 + 6) (by omega)
  obtain ⟨u6, h6⟩ := Option.isSome_iff_exists.1 h6
  simp only [Nat.zero_add] at *
  exact ⟨u0, u1, u2, u3, u4, u5, u6, h0, h1, h2, h3, h4, h5, h6, f0, f1, f2, f3, f4, f5, f6⟩

/-- 'y[k] = Yield{Date: ..}' -/
theorem Inv.yield {w : World} {B len k : Nat} {nums : Nat → Nat} {wr : World} (h : Inv w B len k nums wr) (hk : k < len) (hn : wr.cell? ⟨B + 1, k, none⟩ = some (.int .i64 (nums k))) (x1 x2 x3 x4 x5 : Value) :
    Inv w B len (k + 1) nums (wr.setCells B (k * 7) [.string (dateS (nums k)), x1, x2, x3, x4, x5, .pointer none]) := by
  have ht : wr.there B (k * 7) 7 := fun j hj => by have := h.ty (k * 7 + j) (by omega); rwa [Nat.zero_add] at this
  have hsame := World.rangeAt_setCells_same wr B (k * 7) [.string (dateS (nums k)), x1, x2, x3, x4, x5, .pointer none] ht
  have hout : ∀ (b o : Nat), (b ≠ B ∨ o < k * 7 ∨ k * 7 + 7 ≤ o) → (wr.setCells B (k * 7) [.string (dateS (nums k)), x1, x2, x3, x4, x5, .pointer none]).cell? ⟨b, o, none⟩ = wr.cell? ⟨b, o, none⟩ := fun b o hap =>
    World.cell?_setCells_out B _ (k * 7) wr ⟨b, o, none⟩ (fun hb _ => by
      have hb : b = B := hb
      rcases hap with hap | hap | hap
      · exact absurd hb hap
      · left; exact hap
      · right; exact hap)
  refine ⟨?_, ?_, World.there_setCells h.ty _ _ _, World.there_setCells h.tn _ _ _, fun j hj => ?_, fun j hj => ?_, fun j hj => ?_⟩
  · simp only [World.setCells]
    exact (((((((h.below.setCell (Nat.le_refl _) _).setCell (Nat.le_refl _) _).setCell (Nat.le_refl _) _).setCell (Nat.le_refl _) _).setCell (Nat.le_refl _) _).setCell (Nat.le_refl _) _).setCell (Nat.le_refl _) _)
  · simpa [World.setCells, World.setCell] using h.size
  · rcases Nat.lt_succ_iff_lt_or_eq.1 hj with h1 | rfl
    · rw [hout _ _ (by omega)]; exact h.cd j h1
    · exact hsame 0 _ rfl
  · rcases Nat.lt_succ_iff_lt_or_eq.1 hj with h1 | rfl
    · rw [hout _ _ (by omega)]; exact h.cs j h1
    · exact hsame 6 _ rfl
  · rw [hout _ _ (by omega)]
    rcases Nat.lt_succ_iff_lt_or_eq.1 hj with h1 | rfl
    · exact h.cn j h1
    · exact hn

theorem neq_same (a : Addr) (w : World) : (binOp .neq 37 (.pointer (some a)) (.pointer (some a))).run Ybaf.prog w = .ok (.bool false) w := by
  obtain ⟨i, hi, _⟩ := Option.map_eq_some_iff.1 info35
  have h : ∀ d : Nat, (Op.equalIn (d + 1) 37 (.pointer (some a)) (.pointer (some a))).run Ybaf.prog w = .ok true w := fun d => by
    simp [Op.equalIn, run_underlying Ybaf.underlying37, sizeOf, typeInfo, hi, run_sameAddr_same]
  simp only [binOp]
  simp [Op.equal, Op.maxDepth, h 9999]

abbrev SExact (w : World) (B len i : Nat) (nums : Nat → Nat) (w' : World) : Prop :=
  Inv w B len len nums w' ∧ w'.cell? ⟨B, i * 7, none⟩ = some (.string (dateS (nums i))) ∧ w'.cell? ⟨B, i * 7 + 6, none⟩ = some (.pointer none) ∧ w'.cell? ⟨B + 1, i, none⟩ = some (.int .i64 (nums i))
theorem SExact.mk {w : World} {B len i : Nat} {nums : Nat → Nat} {w' : World} (h : Inv w B len len nums w') (hi : i < len) : SExact w B len i nums w' := ⟨h, h.cd i hi, h.cs i hi, h.cn i hi⟩
theorem SExact.later {w : World} {B len i : Nat} {nums : Nat → Nat} {w' w2 : World} (h : Inv w B len len nums w') (hi : i < len) (hb : Below w'.heap.size w' w2) : SExact w B len i nums w2 := .mk (h.later hb) hi

theorem raw16 {w : World} {a0 : Option Addr} {len cap : Nat} {zs : List Int} (w0 : IsRow .u16 w a0 len cap zs) (k : Nat) (hk : k < len) :
    ∃ b o, a0 = some ⟨b, o, none⟩ ∧ b < w.heap.size ∧ w.cell? ⟨b, o + k, none⟩ = some (.int .u16 (zs.getD k 0)) ∧ 0 ≤ zs.getD k 0 ∧ zs.getD k 0 ≤ 65535 := by
  rcases w0 with ⟨_, rfl, _, _⟩ | ⟨x, rfl, hl, _, hz, hc, hw⟩
  · omega
  · obtain ⟨b, o, rfl, hc'⟩ := ints_at hc (by omega)
    have := hc' k (by omega)
    have hr := range_u16 hw k
    rw [← List.getD_eq_getElem?_getD] at hr
    exact ⟨b, o, rfl, World.block_lt_of_cell? w _ this, this, hr.1, hr.2⟩

set_option maxHeartbeats 1000000 in
theorem exact_walk (a0 : Option Addr) (len cap : Nat) (zs : List Int) (d : Int) (w : World) (w0 : IsRow .u16 w a0 len cap zs) (w1 : 0 ≤ d ∧ d ≤ 65535) :
    Calls Ybaf.prog 3 #[.slice a0 len cap, .int .u16 d] w fun e w' => e = .returned (.bool true) ∧ Below w.heap.size w w' := by
  by_cases hlen : len ≤ 1024
  · obtain ⟨CY, hCY, hmY⟩ := make_any 25 35 7 80 len Ybaf.underlying25 info35 hlen (by omega)
    obtain ⟨CN, hCN, hmN⟩ := make_any 26 3 1 8 len Ybaf.underlying26 info3 hlen (by omega)
    obtain ⟨nums, hnums⟩ : ∃ nums : Nat → Nat, ∀ k, (nums k : Int) = zs.getD k 0 % 366 := ⟨fun k => (zs.getD k 0 % 366).toNat, fun k => Int.toNat_of_nonneg (Int.emod_nonneg _ (by decide))⟩
    have hnle : ∀ k, nums k ≤ 365 := fun k => by have := hnums k; omega
    have hraw : ∀ k, k < len → ∃ b o, a0 = some ⟨b, o, none⟩ ∧ b < w.heap.size ∧ w.cell? ⟨b, o + k, none⟩ = some (.int .u16 (zs.getD k 0)) ∧ 0 ≤ zs.getD k 0 ∧ zs.getD k 0 ≤ 65535 := raw16 w0
    have HNU := hide hnums
    have HNL := hide hnle
    have HR := hide hraw
    have INV := hide (inv_start w CY CN len nums hCY hCN)
    have hd0 : decide ((1024 : Int) < (len : Int)) = false := decide_eq_false (by omega)
    clear hCY hCN hnums hnle hraw w0
    go_enter Ybaf.func3, Ybaf.ntmps3
    go_wp2
    generalize hD : d % 366 = D at *
    obtain ⟨dn, rfl⟩ : ∃ dn : Nat, D = dn := ⟨D.toNat, by omega⟩
    have hdn : dn ≤ 365 := by omega
    clear hD w1
    generalize (w.alloc (.cells CY 35)).alloc (.cells CN 3) = W at *
    generalize hBB : w.heap.size = B at *
    have HBB := hide hBB
    clear hBB
    clear hmY hmN
    go_loopw [28] (fun i wr => ∃ k : Nat, k ≤ len ∧ i = .int .i64 k ∧ Inv w B len k nums wr) (fun i _ => len - (intOf i).toNat)
    case atStart => exact ⟨0, by omega, rfl, INV.out⟩
    case round =>
      obtain ⟨k, hk, rfl, hinv⟩ := hrel
      clear INV
      have HI := hide hinv
      clear hinv
      by_cases hlt : k < len
      · obtain ⟨rb, ro, rfl, hrb, hrc, hz0, hz1⟩ := HR.out k hlt
        have hrc' : wr.cell? ⟨rb, ro + k, none⟩ = some (.int .u16 (zs.getD k 0)) := by rw [HI.out.below.cell (p := ⟨rb, ro + k, none⟩) hrb]; exact hrc
        have hnk := hide (HNU.out k)
        have hle := HNL.out k
        obtain ⟨u, hu⟩ := Option.isSome_iff_exists.1 (HI.out.tn k hlt).1
        have hfr := (HI.out.tn k hlt).2
        rw [Nat.zero_add] at hu hfr
        clear hrc
        generalize zs.getD k 0 = z at *
        go_upto_region 10 with fail
        rw [← hnk.out]
        have HI2 := hide (HI.out.num hlt).1
        have hcn := (HI.out.num hlt).2
        clear HI hu hfr hrc' hnk
        generalize wr.setCell ⟨B + 1, k, none⟩ (.int .i64 (nums k)) = wr2 at *
        have hB1 := HI2.out.size
        go_wp2_with (go_at_call 5; refine (date_any (nums k) _ hle).mono ?_; rintro e w2 ⟨rfl, hb2⟩; have I3 := hide (HI2.out.later hb2); have hcn2 := hide ((hb2.cell (p := ⟨B + 1, k, none⟩) hB1).trans hcn); obtain ⟨u0, u1, u2, u3, u4, u5, u6, g0, g1, g2, g3, g4, g5, g6, f0, f1, f2, f3, f4, f5, f6⟩ := seven I3.out.ty hlt; clear hb2 HI2 hcn)
        go_roundw
        case rel => exact ⟨k + 1, by omega, by go_num, I3.out.yield hlt hcn2.out _ _ _ _ _⟩
        case measure => simp [intOf]; omega
      · obtain rfl : len = k := by omega
        clear HR hk HNU
        have hcn : ∀ j, j < len → wr.cell? ⟨B + 1, j, none⟩ = some (.int .i64 (nums j)) := HI.out.cn
        have HC := hide hcn
        clear hcn
        go_wp2
        go_loop [10] (fun t => ∃ k : Nat, k ≤ len ∧ t = .int .i64 k ∧ ∀ j, j < k → 7 ≤ (dn : Int) - nums j) (fun t => len - (intOf t).toNat)
        case atStart => exact ⟨0, by omega, rfl, fun j h => absurd h (Nat.not_lt_zero _)⟩
        case round =>
          obtain ⟨k, hk, rfl, hall⟩ := hrel
          have HA := hide hall
          clear hall
          by_cases hgo : k < len ∧ 7 ≤ (dn : Int) - nums k
          · obtain ⟨hlt, h7⟩ := hgo
            have hck := HC.out k hlt
            have hnk := HNL.out k
            go_wp2
            go_round
            case rel => exact ⟨k + 1, by omega, by go_num, fun j hj => by
              rcases Nat.lt_succ_iff_lt_or_eq.1 hj with h | rfl
              · exact HA.out j h
              · exact h7⟩
            case measure => simp [intOf]; omega
          · have HF : Hid (IsFirst (fun j => 7 ≤ (dn : Int) - nums j) len k) := ⟨hk, HA.out, fun h h' => hgo ⟨h, h'⟩⟩
            have hck : k < len → wr.cell? ⟨B + 1, k, none⟩ = some (.int .i64 (nums k)) := HC.out k
            have hnk := HNL.out k
            have hno : k < len → ¬ 7 ≤ (dn : Int) - nums k := fun h h' => hgo ⟨h, h'⟩
            clear hgo HA
            rcases Nat.lt_or_ge k len with hlt | hlt
            all_goals (try (replace hck := hck hlt; replace hno := hno hlt))
            all_goals
              go_wp2_with fail
              refine (date_any dn _ hdn).mono ?_
              rintro e w3 ⟨rfl, hb3⟩
              have I3 := hide (HI.out.later hb3)
              clear hb3 HI HC hck hno
              go_wp2_with fail
              refine (from_any B len nums dn _ hlen hdn (fun j _ => HNL.out j) I3.out.cd).mono ?_
              rintro e w4 ⟨⟨k', a', hf', rfl, ha'⟩, rfl⟩
              obtain rfl : k' = k := hf'.eq HF.out
              clear hf' HF
              have HA' := hide ha'
              clear ha'
              generalize hm : len - k' = m at *
              have hm1 : m + k' ≤ len := by omega
              have hm2 : len ≤ m + k' := by omega
              have hne : ((m : Int) != (len : Int) - (k' : Int)) = false := by rw [bne_eq_false_iff_eq]; omega
              clear hm
              go_wp2_with fail
              go_loopw [77] (fun i wr => ∃ j : Nat, j ≤ m ∧ i = .int .i64 j ∧ Inv w B len len nums wr) (fun i _ => m - (intOf i).toNat)
              case atStart => exact ⟨0, by omega, rfl, I3.out⟩
              case round =>
                obtain ⟨j, hj, rfl, hinv⟩ := hrel
                have HI := hide hinv
                clear hinv I3
                by_cases hjm : j < m
                · obtain rfl := HA'.out (by omega)
                  have e1 : k' * 7 + j * 7 = (k' + j) * 7 := by omega
                  have b1 : (0 : Int) ≤ j := by omega
                  have b2 : (j : Int) < m := by omega
                  have b3 : (k' : Int) + j < len := by omega
                  have b4 : (0 : Int) ≤ (k' : Int) + j := by omega
                  have b5 : ((k' : Int) + (j : Int)).toNat = k' + j := by omega
                  have b6 : IntKind.i64.wrap ((k' : Int) + (j : Int)) = (k' : Int) + j := by rw [IntKind.wrap_i64]; omega
                  have hS : Inv w B len len nums wr.drew := HI.out.drew
                  have hpn := neq_same
                  go_wp2_with fail
                  go_region_held3 (fun w' => Inv w B len len nums w') (assumption) (fail)
                  go_wp2
                  go_roundw
                  case rel => exact ⟨j + 1, by omega, by go_num, hS⟩
                  case measure => simp [intOf]; omega
                · go_wp2_with fail
                  go_loopw [92] (fun i wr => ∃ j : Nat, j ≤ len ∧ i = .int .i64 j ∧ Inv w B len len nums wr) (fun i _ => len - (intOf i).toNat)
                  case atStart => exact ⟨0, by omega, rfl, HI.out⟩
                  case round =>
                    obtain ⟨i, hi, rfl, hinv⟩ := hrel
                    have HJ := hide hinv
                    clear hinv HI
                    by_cases hil : i < len
                    · have b1 : (0 : Int) ≤ i := by omega
                      have b2 : (i : Int) < len := by omega
                      have hni := HNL.out i
                      have hS := SExact.mk HJ.out.drew hil
                      go_wp2_with fail
                      go_region_held3 (fun w' => Inv w B len len nums w' ∧ w'.cell? ⟨B, i * 7, none⟩ = some (.string (dateS (nums i))) ∧ w'.cell? ⟨B, i * 7 + 6, none⟩ = some (.pointer none) ∧ w'.cell? ⟨B + 1, i, none⟩ = some (.int .i64 (nums i))) (assumption)
                        (first | (go_at_call 5; refine (date_any (nums i) _ hni).mono ?_; rintro e w2 ⟨rfl, hb2⟩; have hS2 := SExact.later hS.1 hil hb2))
                      go_wp2
                      go_roundw
                      case rel => exact ⟨i + 1, by omega, by go_num, hS2.1⟩
                      case measure => simp [intOf]; omega
                    · go_wp2
                      go_ret
                      exact ⟨rfl, HBB.out.symm ▸ HJ.out.below⟩
  · go_enter Ybaf.func3, Ybaf.ntmps3
    go_wp2
    go_ret
    exact ⟨rfl, Below.refl _ _⟩
end Go.Proofs.YbulkbhdgFmt
