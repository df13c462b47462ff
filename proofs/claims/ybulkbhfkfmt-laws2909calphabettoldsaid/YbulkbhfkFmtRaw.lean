import Derived.Test.YbulkbhfkFmtCheck
import Derived.Laws.CopyOwn
import Derived.OpenShut
namespace Go.Proofs.YbulkbhfkFmt
open Go.RowKit Go.Extern.Stop Go.Stop Go.Extern

def IsRow (k : IntKind) (w : World) (a : Option Addr) (len cap : Nat) (zs : List Int) : Prop :=
  (a = none ∧ len = 0 ∧ cap = 0 ∧ zs = []) ∨
  ∃ x, a = some x ∧ len ≤ cap ∧ cap ≤ maxLen ∧ zs.length = cap ∧ (∀ i, i < zs.length → w.cell? (x.add i) = some (.int k (zs.getD i 0))) ∧ ∀ n ∈ zs, (Lit.int k n).wf = true

def bytesV (l : List UInt8) : List Value := l.map fun b => .int .u8 (b.toNat : Int)
theorem bytesV_length (l : List UInt8) : (bytesV l).length = l.length := by simp [bytesV]
theorem bytesV_one (l : List UInt8) : ∀ v ∈ bytesV l, v.oneCell' = true := fun v hv => by
  obtain ⟨_, _, rfl⟩ := List.mem_map.1 hv
  rfl
theorem lies_of_block {w : World} {b : Nat} {l : List UInt8} {t : TypeId} {fr : Nat × Nat} (h : w.heap[b]? = some (.cells (bytesV l).toArray t fr)) : Lies w b l := fun j hj => by
  simp only [World.cell?, h]
  simp [bytesV, hj]
theorem Lies.later {w w2 : World} {b : Nat} {l : List UInt8} (h : Lies w b l) (hb : b < w.heap.size) (hw : Below w.heap.size w w2) : Lies w2 b l := fun j hj => by
  rw [hw.cell (p := ⟨b, j, none⟩) hb]; exact h j hj

/-- What came in, as bytes; where it is not empty it lies at ⟨rb, ro⟩. -/
theorem row_bytes {w : World} {a : Option Addr} {len cap : Nat} {zs : List Int} (h : IsRow .u8 w a len cap zs) :
    ∃ L : List UInt8, L.length = len ∧ (0 < len → ∃ rb ro, a = some ⟨rb, ro, none⟩ ∧ rb < w.heap.size ∧ ∀ j (hj : j < L.length), w.cell? ⟨rb, ro + j, none⟩ = some (.int .u8 (L[j].toNat : Int))) := by
  rcases h with ⟨_, rfl, _, _⟩ | ⟨x, rfl, hl, _, hz, hc, hw⟩
  · exact ⟨[], rfl, fun h => absurd h (Nat.lt_irrefl _)⟩
  · refine ⟨(zs.take len).map (fun z => z.toNat.toUInt8), by simp; omega, fun hp => ?_⟩
    obtain ⟨b, o, rfl, hc'⟩ := ints_at hc (by omega)
    refine ⟨b, o, rfl, World.block_lt_of_cell? w _ (hc' 0 (by omega)), fun j hj => ?_⟩
    have hjl : j < len := by simp at hj; omega
    have hj2 : j < zs.length := by omega
    rw [hc' j hj2]
    have hr := range_u8 hw j
    rw [List.getElem?_eq_getElem hj2, Option.getD_some] at hr
    have : (zs[j].toNat.toUInt8.toNat : Int) = zs[j] := by simp; omega
    simp only [List.getElem_map, List.getElem_take, List.getD_eq_getElem?_getD, List.getElem?_eq_getElem hj2, Option.getD_some, this]

theorem info5 : (Ybaf.prog.info? 5).map (fun i => (i.zero, i.size, i.bytes)) = some (some (.int .u8 0), 1, 1) := by kernel_rfl
theorem size5 : (Ybaf.prog.info? 5).map (·.size) = some 1 := by kernel_rfl
theorem make_any (n : Nat) (hn : n ≤ 4096) : ∃ C : List Value, C.length = n ∧ ∀ w : World, (Instr.makeSlice 22 (.int .i64 n) (.int .i64 n)).run Ybaf.prog w = .ok (.slice (some ⟨w.heap.size, 0, none⟩) n n) (w.alloc (.cells C.toArray 5)) := by
  obtain ⟨i, hi, hz, hs, hb⟩ := info_parts info5
  refine ⟨(madeCells (Value.cells (.int .u8 0)) (n * 1)).toList, by simp [size_madeCells], fun w => ?_⟩
  have := run_make (P := Ybaf.prog) w 22 5 i _ Ybaf.underlying22 hi hz .i64 .i64 n n (by omega) (by omega) (by rw [hb]; omega) (by omega)
  simpa [hs] using this

theorem copy_run (w W : World) (B dc cap : Nat) (a : Option Addr) (L : List UInt8) (C : List Value) (hG : W.heap[B]? = some (.cells C.toArray 5 (0, 0))) (hC : C.length = L.length) (hB : Below B w W)
    (hP : 0 < L.length → ∃ rb ro, a = some ⟨rb, ro, none⟩ ∧ ∀ j (hj : j < L.length), W.cell? ⟨rb, ro + j, none⟩ = some (.int .u8 (L[j].toNat : Int))) :
    ∃ W2, (Builtin.copy_ #[22, 22] 3 #[.slice (some ⟨B, 0, none⟩) L.length dc, .slice a L.length cap]).run Ybaf.prog W = .ok (.int .i64 L.length) W2 ∧ W2.heap[B]? = some (.cells (bytesV L).toArray 5 (0, 0)) ∧ Below B w W2 ∧ W2.heap.size = W.heap.size := by
  by_cases h0 : L.length = 0
  · have hL : L = [] := List.eq_nil_of_length_eq_zero h0
    have hCn : C = [] := List.eq_nil_of_length_eq_zero (by omega)
    subst hL hCn
    exact ⟨W, run_copy_none (P := Ybaf.prog) W 22 22 3 5 _ _ _ _ _ _ Ybaf.underlying22 size5 rfl, hG, hB, rfl⟩
  · obtain ⟨rb, ro, rfl, hsrc⟩ := hP (by omega)
    have := run_copy_row (P := Ybaf.prog) W 22 22 3 5 B 0 L.length dc ⟨rb, ro, none⟩ L.length cap C.toArray 5 (bytesV L) Ybaf.underlying22 size5 hG (by rw [bytesV_length]; exact (Nat.min_self _).symm) (fun j v hj => by
      have hjl : j < L.length := by have := (List.getElem?_eq_some_iff.1 hj).1; simpa [bytesV] using this
      rw [Addr.add_mid, hsrc j hjl, ← hj]
      simp [bytesV, hjl]) (by simp [bytesV_length, hC]) (bytesV_one L)
    have e : (C.toArray.toList.take 0 ++ bytesV L ++ C.toArray.toList.drop (0 + (bytesV L).length)).toArray = (bytesV L).toArray := by
      rw [bytesV_length]; simp [hC]
    rw [e, bytesV_length] at this
    exact ⟨_, this, setRow_heap W B _ _ 5 _ hG, below_setRow hB (Nat.le_refl _) _, by simp [World.setRow]⟩

set_option maxHeartbeats 1000000 in
theorem raw_walk (F : Interp) (a0 : Option Addr) (len0 cap0 : Nat) (z0 : List Int) (a1 : Int) (w : World) (hF : F.answers w.tape) (w0 : IsRow .u8 w a0 len0 cap0 z0) (w1 : 0 ≤ a1 ∧ a1 ≤ 18446744073709551615) :
    Calls Ybaf.prog 4 #[.slice a0 len0 cap0, .int .u64 a1] w fun e w' => e = .returned (.bool true) ∧ Below w.heap.size w w' := by
  by_cases hbig : len0 ≤ 1024
  · obtain ⟨L, hL, hsrc⟩ := row_bytes w0
    subst hL
    clear w0
    obtain ⟨C, hC, hmk⟩ := make_any L.length (by omega)
    have HF := hide hF
    have HC := hide hC
    have HS := hide hsrc
    clear hC hsrc hF
    have hd1 : decide ((1024 : Int) < (L.length : Int)) = false := decide_eq_false (by omega)
    go_enter Ybaf.func4, Ybaf.ntmps4
    go_upto_region 4 with fail
    have hG : (w.alloc (.cells C.toArray 5)).heap[w.heap.size]? = some (.cells C.toArray 5 (0, 0)) := heap_alloc_new w _
    have hB : Below w.heap.size w (w.alloc (.cells C.toArray 5)) := (Below.refl _ _).alloc (Nat.le_refl _) _
    have hZ : w.heap.size < (w.alloc (.cells C.toArray 5)).heap.size := by simp
    obtain ⟨W2, hcp, hG2, hB2, hz2⟩ := copy_run w _ w.heap.size L.length cap0 a0 L C hG HC.out hB (fun hp => by
      obtain ⟨rb, ro, h1, h2, h3⟩ := HS.out hp
      exact ⟨rb, ro, h1, fun j hj => by rw [hB.cell (p := ⟨rb, ro + j, none⟩) h2]; exact h3 j hj⟩)
    rw [← hz2] at hZ
    have HL2 := hide (lies_of_block hG2)
    have HB2 := hide hB2
    have HZ := hide hZ
    clear hG hB hG2 hB2 hz2 hZ HC
    go_upto_region 5 with fail
    clear hcp
    generalize hBB : w.heap.size = B at *
    have HBB := hide hBB
    have hBle : B ≤ w.heap.size := by omega
    clear hBB hmk
    obtain ⟨i, hi⟩ : ∃ i : Nat, (i : Int) = a1 % ((L.length : Int) + 1) := ⟨(a1 % ((L.length : Int) + 1)).toNat, Int.toNat_of_nonneg (Int.emod_nonneg _ (by omega))⟩
    have hi2 : i ≤ L.length := by have := Int.emod_lt_of_pos a1 (show (0 : Int) < (L.length : Int) + 1 by omega); omega
    have HI := hide hi
    clear hi
    go_upto_region 6 with fail
    have hw : wrap64 (a1 % ((L.length : Int) + 1)) = (i : Int) := by rw [← HI.out]; unfold wrap64; omega
    rw [hw]
    clear hw HI
    go_wp2_with fail
    refine (check_any F W2 ?_ B L.length L i HL2.out HZ.out (by omega) (by omega) hbig).mono ?_
    · rw [HB2.out.tape]; exact HF.out
    rintro e W3 ⟨rfl, hb3⟩
    have HL3 := hide (HL2.out.later HZ.out hb3)
    have HB3 := hide (HB2.out.trans (hb3.mono (Nat.le_trans hBle HB2.out.size)))
    have HZ3 : Hid (B < W3.heap.size) := Nat.lt_of_lt_of_le HZ.out hb3.size
    clear hb3 HL2 HB2 HZ HF
    go_wp2_with fail
    go_loopw [7] (fun t wr => ∃ k : Nat, k ≤ L.length ∧ t = .int .i64 k ∧ Below W3.heap.size W3 wr) (fun t _ => L.length - (intOf t).toNat)
    case atStart => exact ⟨0, by omega, rfl, Below.refl _ _⟩
    case round =>
      obtain ⟨k, hk, rfl, hbe⟩ := hrel
      have HBE := hide hbe
      clear hbe
      by_cases hlt : k < L.length
      · obtain ⟨rb, ro, rfl, hrb, hrc⟩ := HS.out (by omega)
        have h1 : wr.cell? ⟨B, k, none⟩ = some (.int .u8 (L[k].toNat : Int)) := (HL3.out.later HZ3.out HBE.out) k hlt
        have h2 : wr.cell? ⟨rb, ro + k, none⟩ = some (.int .u8 (L[k].toNat : Int)) := by
          rw [HBE.out.cell (p := ⟨rb, ro + k, none⟩) (Nat.lt_of_lt_of_le hrb (Nat.le_trans hBle HB3.out.size)), HB3.out.cell (p := ⟨rb, ro + k, none⟩) hrb]; exact hrc k hlt
        have b0 : (0 : Int) ≤ (k : Int) := by omega
        have b1 : (k : Int) < L.length := by omega
        clear hrc
        go_wp2_with fail
        go_region_held3 (fun w' => w'.cell? ⟨B, k, none⟩ = some (.int .u8 (L[k].toNat : Int)) ∧ w'.cell? ⟨rb, ro + k, none⟩ = some (.int .u8 (L[k].toNat : Int))) (go_keep) (fail)
        go_wp2
        go_roundw
        case rel => exact ⟨k + 1, by omega, by go_num, HBE.out.drew⟩
        case measure => simp [intOf]; omega
      · go_wp2
        go_ret
        exact ⟨rfl, HBB.out.symm ▸ (HB3.out.trans (HBE.out.mono (Nat.le_trans hBle HB3.out.size)))⟩
  · have hd1 : decide ((1024 : Int) < (len0 : Int)) = true := decide_eq_true (by omega)
    go_enter Ybaf.func4, Ybaf.ntmps4
    go_wp2
    go_ret
    exact ⟨rfl, Below.refl _ _⟩
end Go.Proofs.YbulkbhfkFmt
