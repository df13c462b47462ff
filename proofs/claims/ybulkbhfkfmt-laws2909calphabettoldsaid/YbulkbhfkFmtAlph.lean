import Derived.Test.YbulkbhfkFmtRaw
import Derived.Deep.MidRow
namespace Go.Proofs.YbulkbhfkFmt
open Go.RowKit Go.Extern.Stop Go.Stop Go.Extern

def alpha : ByteArray := ⟨#[48, 49, 50, 51, 52, 53, 54, 55, 56, 57, 45, 43, 46, 101, 69, 32, 120, 48, 49]⟩

def alB (z : Int) : UInt8 := alpha.data.getD (z % 19).toNat 0
theorem al_eq (z : Int) (h : (z % 19).toNat < alpha.size) : alpha[(z % 19).toNat]'h = alB z := by
  have h' : (z % 19).toNat < alpha.data.size := h
  unfold alB
  rw [← Array.getElem_eq_getD (h := h')]; rfl
theorem al_bad (z : Int) (h : (z % 19).toNat < alpha.size) : ¬ (((alB z).toNat : Int) != ((alpha[(z % 19).toNat]'h).toNat : Int)) = true := by
  rw [al_eq]; simp
def alphL (L : List UInt8) : List UInt8 := L.map fun b => alB (b.toNat : Int)
theorem alphL_length (L : List UInt8) : (alphL L).length = L.length := by simp [alphL]

structure InvA (w : World) (B : Nat) (L : List UInt8) (k : Nat) (wr : World) : Prop where
  below : Below B w wr
  size : B < wr.heap.size
  th : wr.there B 0 L.length
  cells : ∀ j (hj : j < (alphL L).length), j < k → wr.cell? ⟨B, j, none⟩ = some (.int .u8 ((alphL L)[j].toNat : Int))

theorem InvA.step {w : World} {B : Nat} {L : List UInt8} {k : Nat} {wr : World} (h : InvA w B L k wr) (hk : k < L.length) {x : Int} (hx : x = ((alB (L[k].toNat : Int)).toNat : Int)) : InvA w B L (k + 1) (wr.setCell ⟨B, k, none⟩ (.int .u8 x)) := by
  subst hx
  obtain ⟨u, hu⟩ := Option.isSome_iff_exists.1 (h.th k hk).1
  rw [Nat.zero_add] at hu
  refine ⟨h.below.setCell (Nat.le_refl _) _, by simpa [World.setCell] using h.size, fun j hj => ?_, fun j hj hjk => ?_⟩
  · obtain ⟨v, hv⟩ := Option.isSome_iff_exists.1 (h.th j hj).1
    refine ⟨?_, by rw [World.frozen?_setCell]; exact (h.th j hj).2⟩
    by_cases e : (⟨B, k, none⟩ : Addr) = ⟨B, 0 + j, none⟩
    · rw [← e, World.cell?_setCell_same _ _ _ hu]; rfl
    · rw [World.cell?_setCell_other _ _ _ _ e, hv]; rfl
  · by_cases e : k = j
    · subst e
      rw [World.cell?_setCell_same _ _ _ hu]
      simp [alphL]
    · rw [World.cell?_setCell_other _ _ _ _ (fun h' => e (by injection h'))]
      exact h.cells j hj (by omega)

theorem InvA.start (w : World) (L : List UInt8) (C : List Value) (hC : C.length = L.length) : InvA w w.heap.size L 0 (w.alloc (.cells C.toArray 5)) := by
  have hh : (w.alloc (.cells C.toArray 5)).heap[w.heap.size]? = some (.cells C.toArray 5) := heap_alloc_new w _
  refine ⟨(Below.refl _ _).alloc (Nat.le_refl _) _, by simp, fun j hj => ?_, fun j _ h => absurd h (Nat.not_lt_zero _)⟩
  simp only [World.cell?, World.frozen?, hh]
  simp; omega

set_option maxHeartbeats 1000000 in
theorem alphabet_walk (F : Interp) (a0 : Option Addr) (len0 cap0 : Nat) (z0 : List Int) (a1 : Int) (w : World) (hF : F.answers w.tape) (w0 : IsRow .u8 w a0 len0 cap0 z0) (w1 : 0 ≤ a1 ∧ a1 ≤ 18446744073709551615) :
    Calls Ybaf.prog 3 #[.slice a0 len0 cap0, .int .u64 a1] w fun e w' => e = .returned (.bool true) ∧ Below w.heap.size w w' := by
  by_cases hbig : len0 ≤ 1024
  · obtain ⟨L, hL, hsrc⟩ := row_bytes w0
    subst hL
    clear w0
    obtain ⟨C, hC, hmk⟩ := make_any L.length (by omega)
    have HF := hide hF
    have HC := hide hC
    have HS := hide hsrc
    clear hC hsrc hF
    have hd1 : decide ((1024 : Int) < (L.length : Int)) = false := decide_eq_false (by omega)
    go_enter Ybaf.func3, Ybaf.ntmps3
    go_wp2_with fail
    have HI0 := hide (InvA.start w L C HC.out)
    clear HC hmk
    generalize w.alloc (.cells C.toArray 5) = W at *
    generalize hBB : w.heap.size = B at *
    have HBB := hide hBB
    have hBle : B ≤ w.heap.size := by omega
    clear hBB
    go_loopw [6] (fun t wr => ∃ k : Nat, k ≤ L.length ∧ t = .int .i64 k ∧ InvA w B L k wr) (fun t _ => L.length - (intOf t).toNat)
    case atStart => exact ⟨0, by omega, rfl, HI0.out⟩
    case round =>
      obtain ⟨k, hk, rfl, hinv⟩ := hrel
      have HI := hide hinv
      clear hinv HI0
      by_cases hlt : k < L.length
      · obtain ⟨rb, ro, rfl, hrb, hrc⟩ := HS.out (by omega)
        have h2 : wr.cell? ⟨rb, ro + k, none⟩ = some (.int .u8 (L[k].toNat : Int)) := by
          rw [HI.out.below.cell (p := ⟨rb, ro + k, none⟩) hrb]; exact hrc k hlt
        obtain ⟨u, hu⟩ := Option.isSome_iff_exists.1 (HI.out.th k hlt).1
        have hfr := (HI.out.th k hlt).2
        rw [Nat.zero_add] at hu hfr
        clear hrc
        have hz : 0 ≤ (L[k].toNat : Int) ∧ (L[k].toNat : Int) ≤ 255 := by have := (L[k]).toNat_lt; omega
        generalize hzz : (L[k].toNat : Int) = z at *
        have HZZ := hide hzz
        clear hzz
        go_wp2_with fail
        go_roundw
        case rel => exact ⟨k + 1, by omega, by go_num, HI.out.step hlt (by rw [HZZ.out]; exact congrArg (fun b : UInt8 => (b.toNat : Int)) (al_eq z _))⟩
        case measure => simp [intOf]; omega
      · obtain rfl : k = L.length := by omega
        have HL2 : Hid (Lies wr B (alphL L)) := fun j hj => HI.out.cells j hj (by rwa [alphL_length] at hj)
        have HB2 := hide HI.out.below
        have HZ := hide HI.out.size
        clear HI hk
        obtain ⟨i, hi⟩ : ∃ i : Nat, (i : Int) = a1 % ((L.length : Int) + 1) := ⟨(a1 % ((L.length : Int) + 1)).toNat, Int.toNat_of_nonneg (Int.emod_nonneg _ (by omega))⟩
        have hi2 : i ≤ L.length := by have := Int.emod_lt_of_pos a1 (show (0 : Int) < (L.length : Int) + 1 by omega); omega
        have HI := hide hi
        clear hi
        go_upto_region 9 with fail
        have hw : wrap64 (a1 % ((L.length : Int) + 1)) = (i : Int) := by rw [← HI.out]; unfold wrap64; omega
        rw [hw]
        clear hw HI
        go_wp2_with fail
        have hck := check_any F wr (by rw [HB2.out.tape]; exact HF.out) B L.length (alphL L) i HL2.out HZ.out (by omega) (by rw [alphL_length]; omega) (by rw [alphL_length]; exact hbig)
        rw [alphL_length] at hck
        refine hck.mono ?_
        clear hck
        rintro e W3 ⟨rfl, hb3⟩
        have HL3 := hide (HL2.out.later HZ.out hb3)
        have HB3 := hide (HB2.out.trans (hb3.mono (Nat.le_trans hBle HB2.out.size)))
        have HZ3 : Hid (B < W3.heap.size) := Nat.lt_of_lt_of_le HZ.out hb3.size
        clear hb3 HL2 HB2 HZ HF
        go_wp2_with fail
        go_loopw [8] (fun t wr => ∃ k : Nat, k ≤ L.length ∧ t = .int .i64 k ∧ Below W3.heap.size W3 wr) (fun t _ => L.length - (intOf t).toNat)
        case atStart => exact ⟨0, by omega, rfl, Below.refl _ _⟩
        case round =>
          obtain ⟨k, hk, rfl, hbe⟩ := hrel
          have HBE := hide hbe
          clear hbe
          by_cases hlt : k < L.length
          · obtain ⟨rb, ro, rfl, hrb, hrc⟩ := HS.out (by omega)
            have hlt' : k < (alphL L).length := by rw [alphL_length]; exact hlt
            have h1 : wr.cell? ⟨B, k, none⟩ = some (.int .u8 ((alB (L[k].toNat : Int)).toNat : Int)) := by
              rw [(HL3.out.later HZ3.out HBE.out) k hlt']; simp [alphL]
            have h2 : wr.cell? ⟨rb, ro + k, none⟩ = some (.int .u8 (L[k].toNat : Int)) := by
              rw [HBE.out.cell (p := ⟨rb, ro + k, none⟩) (Nat.lt_of_lt_of_le hrb (Nat.le_trans hBle HB3.out.size)), HB3.out.cell (p := ⟨rb, ro + k, none⟩) hrb]; exact hrc k hlt
            have b0 : (0 : Int) ≤ (k : Int) := by omega
            have b1 : (k : Int) < L.length := by omega
            have hz : 0 ≤ (L[k].toNat : Int) ∧ (L[k].toNat : Int) ≤ 255 := by have := (L[k]).toNat_lt; omega
            clear hrc hlt'
            generalize (L[k].toNat : Int) = z at *
            have hm0 : (0 : Int) ≤ z % 19 := by omega
            have hm1 : z % 19 < (19 : Int) := by omega
            have hmt : z.tmod 19 = z % 19 := Int.tmod_eq_emod_of_nonneg hz.1
            have hw1 : IntKind.i64.wrap z = z := by rw [IntKind.wrap_i64]; omega
            have hw2 : IntKind.i64.wrap (z % 19) = z % 19 := by rw [IntKind.wrap_i64]; omega
            go_wp2_with fail
            go_region_held3 (fun w' => w'.cell? ⟨B, k, none⟩ = some (.int .u8 ((alB z).toNat : Int)) ∧ w'.cell? ⟨rb, ro + k, none⟩ = some (.int .u8 z)) (go_keep) (fail)
            go_wp2
            · rename_i hbad
              exact absurd hbad (al_bad z _)
            · go_roundw
              case rel => exact ⟨k + 1, by omega, by go_num, HBE.out.drew⟩
              case measure => simp [intOf]; omega
          · go_wp2
            go_ret
            exact ⟨rfl, HBB.out.symm ▸ (HB3.out.trans (HBE.out.mono (Nat.le_trans hBle HB3.out.size)))⟩
  · have hd1 : decide ((1024 : Int) < (len0 : Int)) = true := decide_eq_true (by omega)
    go_enter Ybaf.func3, Ybaf.ntmps3
    go_wp2
    go_ret
    exact ⟨rfl, Below.refl _ _⟩
end Go.Proofs.YbulkbhfkFmt
