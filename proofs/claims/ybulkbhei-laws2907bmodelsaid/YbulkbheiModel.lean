import Derived.Test.YbulkbheiExpect
import Derived.Laws.CopyOwn
import Derived.Deep.AppendSrc
import Derived.OpenShut
namespace Go.Proofs.Ybulkbhei
open Go.RowKit

def IsRow (k : IntKind) (w : World) (a : Option Addr) (len cap : Nat) (zs : List Int) : Prop :=
  (a = none ∧ len = 0 ∧ cap = 0 ∧ zs = []) ∨
  ∃ x, a = some x ∧ len ≤ cap ∧ cap ≤ maxLen ∧ zs.length = cap ∧ (∀ i, i < zs.length → w.cell? (x.add i) = some (.int k (zs.getD i 0))) ∧ ∀ n ∈ zs, (Lit.int k n).wf = true

def bytesV (l : List UInt8) : List Value := l.map fun b => .int .u8 (b.toNat : Int)
theorem bytesV_length (l : List UInt8) : (bytesV l).length = l.length := by simp [bytesV]
theorem bytesV_one (l : List UInt8) : ∀ v ∈ bytesV l, v.oneCell' = true := fun v hv => by
  obtain ⟨_, _, rfl⟩ := List.mem_map.1 hv
  rfl
/-- A block that holds the bytes l, and more behind them. -/
theorem lies_of_block {w : World} {b : Nat} {l : List UInt8} {r : List Value} {t : TypeId} {fr : Nat × Nat} (h : w.heap[b]? = some (.cells (bytesV l ++ r).toArray t fr)) : Lies w b l := fun j hj => by
  simp only [World.cell?, h]
  simp [bytesV, List.getElem?_append_left, hj]

/-- What came in, as bytes. -/
theorem row_bytes {w : World} {a : Option Addr} {len cap : Nat} {zs : List Int} (h : IsRow .u8 w a len cap zs) :
    ∃ L : List UInt8, L.length = len ∧ (0 < len → ∃ ad, a = some ad ∧ ad.block < w.heap.size ∧ ∀ j v, (bytesV L)[j]? = some v → w.cell? (ad.add j) = some v) := by
  rcases h with ⟨_, rfl, _, _⟩ | ⟨x, rfl, hl, _, hz, hc, hw⟩
  · exact ⟨[], rfl, fun h => absurd h (Nat.lt_irrefl _)⟩
  · refine ⟨(zs.take len).map (fun z => z.toNat.toUInt8), by simp; omega, fun hp => ⟨x, rfl, ?_, fun j v hj => ?_⟩⟩
    · have := World.block_lt_of_cell? w _ (hc 0 (by omega))
      simpa [Addr.add] using this
    · have hjl : j < len := by
        have := (List.getElem?_eq_some_iff.1 hj).1
        simp [bytesV] at this
        omega
      rw [hc j (by omega), ← hj]
      have hr := range_u8 hw j
      have hj2 : j < zs.length := by omega
      simp only [bytesV, List.map_map, List.getElem?_map, List.getElem?_take_of_lt hjl, List.getElem?_eq_getElem hj2, Option.map_some, Function.comp, List.getD_eq_getElem?_getD, Option.getD_some]
      rw [List.getElem?_eq_getElem hj2, Option.getD_some] at hr
      have : (zs[j].toNat.toUInt8.toNat : Int) = zs[j] := by simp; omega
      rw [this]

theorem info5 : (Yba.prog.info? 5).map (fun i => (i.zero, i.size, i.bytes)) = some (some (.int .u8 0), 1, 1) := by kernel_rfl
theorem size5 : (Yba.prog.info? 5).map (·.size) = some 1 := by kernel_rfl

theorem make_any (n : Nat) (hn : n ≤ 4096) : ∃ C : List Value, C.length = n ∧ ∀ w : World, (Instr.makeSlice 22 (.int .i64 n) (.int .i64 n)).run Yba.prog w = .ok (.slice (some ⟨w.heap.size, 0, none⟩) n n) (w.alloc (.cells C.toArray 5)) := by
  obtain ⟨i, hi, hz, hs, hb⟩ := info_parts info5
  refine ⟨(madeCells (Value.cells (.int .u8 0)) (n * 1)).toList, by simp [size_madeCells], fun w => ?_⟩
  have := run_make (P := Yba.prog) w 22 5 i _ Yba.underlying22 hi hz .i64 .i64 n n (by omega) (by omega) (by rw [hb]; omega) (by omega)
  simpa [hs] using this

theorem splice_all (C cs : List Value) (h : cs.length = C.length) : splice C 0 cs = cs := by
  simp [splice, h]

theorem add_block (a : Addr) (j : Nat) : (a.add j).block = a.block := by unfold Addr.add; split <;> rfl
/-- 'copy(d, src)', d a row of the call's own, as long as src. -/
theorem copy_run (w W : World) (B dc cap : Nat) (a : Option Addr) (L : List UInt8) (C : List Value) (hG : W.heap[B]? = some (.cells C.toArray 5 (0, 0))) (hC : C.length = L.length) (hB : Below B w W)
    (hP : 0 < L.length → ∃ ad, a = some ad ∧ ∀ j v, (bytesV L)[j]? = some v → W.cell? (ad.add j) = some v) :
    ∃ W2, (Builtin.copy_ #[22, 22] 3 #[.slice (some ⟨B, 0, none⟩) L.length dc, .slice a L.length cap]).run Yba.prog W = .ok (.int .i64 L.length) W2 ∧ W2.heap[B]? = some (.cells (bytesV L).toArray 5 (0, 0)) ∧ Below B w W2 ∧ W2.heap.size = W.heap.size ∧ ∀ k, k ≠ B → W2.heap[k]? = W.heap[k]? := by
  by_cases h0 : L.length = 0
  · have hL : L = [] := List.eq_nil_of_length_eq_zero h0
    have hCn : C = [] := List.eq_nil_of_length_eq_zero (by omega)
    subst hL hCn
    exact ⟨W, run_copy_none (P := Yba.prog) W 22 22 3 5 _ _ _ _ _ _ Yba.underlying22 size5 rfl, hG, hB, rfl, fun _ _ => rfl⟩
  · obtain ⟨ad, rfl, hsrc⟩ := hP (by omega)
    have := run_copy_row (P := Yba.prog) W 22 22 3 5 B 0 L.length dc ad L.length cap C.toArray 5 (bytesV L) Yba.underlying22 size5 hG (by rw [bytesV_length]; exact (Nat.min_self _).symm) hsrc (by simp [bytesV_length, hC]) (bytesV_one L)
    have e : (C.toArray.toList.take 0 ++ bytesV L ++ C.toArray.toList.drop (0 + (bytesV L).length)).toArray = (bytesV L).toArray := by
      rw [bytesV_length]; simp [hC]
    rw [e, bytesV_length] at this
    exact ⟨_, this, setRow_heap W B _ _ 5 _ hG, below_setRow hB (Nat.le_refl _) _, by simp [World.setRow], fun k hk => setRow_other W B k _ hk⟩

theorem src_later {w W : World} {a : Option Addr} {L : List UInt8} (hb : Below w.heap.size w W) (h : 0 < L.length → ∃ ad, a = some ad ∧ ad.block < w.heap.size ∧ ∀ j v, (bytesV L)[j]? = some v → w.cell? (ad.add j) = some v) :
    0 < L.length → ∃ ad, a = some ad ∧ ∀ j v, (bytesV L)[j]? = some v → W.cell? (ad.add j) = some v := fun hp => by
  obtain ⟨ad, h1, h2, h3⟩ := h hp
  exact ⟨ad, h1, fun j v hj => by rw [hb.cell (p := ad.add j) (by rw [add_block]; exact h2)]; exact h3 j v hj⟩

theorem lies_src {w : World} {b : Nat} {l : List UInt8} (h : Lies w b l) : ∀ j v, (bytesV l)[j]? = some v → w.cell? ((⟨b, 0, none⟩ : Addr).add j) = some v := fun j v hj => by
  have hjl : j < l.length := by
    have := (List.getElem?_eq_some_iff.1 hj).1
    simpa [bytesV] using this
  have e : (⟨b, 0, none⟩ : Addr).add j = ⟨b, j, none⟩ := by rw [Addr.add_mid]; simp
  rw [e, h j hjl, ← hj]
  simp [bytesV, hjl]

/-- An append whose run is known. -/
theorem wpList_append_run {P : Program} {w : World} {ops : Array Oper} {rest : List Oper} {o : Oper} {a : Act} {Q : Exit → Act → World → Prop} (hgd : o.guard = none) (d s : Operand) (dT sT ty : TypeId)
    (ho : o.op = .call { callee := .builtin .append, args := #[d, s], argTypes := #[dT, sT] }) (hty : o.type = ty) (x y : Value) (hd : a.eval d = x) (hs : a.eval s = y) (v : Value) (w' : World)
    (hrun : (Builtin.append_ #[dT, sT] ty #[x, y]).run P w = .ok v w') (h : wpList P ops Q rest (a.put o.dst v) w') : wpList P ops Q (o :: rest) a w := by
  subst hty
  refine wpList_plain hgd fun K hK => ?_
  unfold Oper.wp
  simp [execOp, ho, resolve, invoke, builtin, hd, hs, hrun, Result.andThen]
  exact hK _ _ h

theorem bytesV_append (l r : List UInt8) : bytesV (l ++ r) = bytesV l ++ bytesV r := by simp [bytesV]
/-- 'append(d[:i:i], word...)'. -/
theorem plant_run (W : World) (B i : Nat) (L : List UInt8) (s : ByteArray) (hL : Lies W B L) (hz : B < W.heap.size) (hil : i ≤ L.length) (hl : L.length ≤ 1024) (hs : s.size ≤ 1024) :
    ∃ b c W', (Builtin.append_ #[22, 9] 22 #[.slice (some ⟨B, 0, none⟩) i i, .string s]).run Yba.prog W = .ok (.slice (some ⟨b, 0, none⟩) (i + s.size) c) W' ∧ Lies W' b (L.take i ++ s.data.toList) ∧ b < W'.heap.size ∧ i + s.size ≤ c ∧ c ≤ maxLen ∧ Below W.heap.size W W' := by
  obtain ⟨inf, hi, hzz, hs1, hb1⟩ := info_parts info5
  have hsrc := Src.ofString (P := Yba.prog) W (tx := 9) Yba.underlying9 s
  rw [← hs1] at hsrc
  by_cases h0 : s.size = 0
  · have hn : byteCells s = [] := List.eq_nil_of_length_eq_zero (by rw [byteCells_length, h0])
    rw [hn] at hsrc
    have := run_append_room_src (P := Yba.prog) W 22 9 22 5 inf Yba.underlying22 hi B 0 i i (.string s) s.size [] hsrc (by omega) (fun j hj => absurd hj (Nat.not_lt_zero _)) (fun j hj => absurd hj (Nat.not_lt_zero _))
    have hd : s.data.toList = [] := List.eq_nil_of_length_eq_zero (by simpa using h0)
    refine ⟨B, i, W, this, ?_, hz, by omega, by unfold maxLen; omega, Below.refl _ _⟩
    rw [hd, List.append_nil]
    intro j hj
    have hj' : j < i := by simp at hj; omega
    have hj2 : j < L.length := by omega
    rw [hL j hj2]
    simp
  · have hold : (Builtin.firstCells inf.size i (.slice (some ⟨B, 0, none⟩) i i)).run Yba.prog W.drew = .ok (bytesV (L.take i)).toArray W.drew :=
      run_firstCells_some W.drew inf.size i ⟨B, 0, none⟩ i i (bytesV (L.take i)) (by rw [hs1, bytesV_length, List.length_take, Nat.mul_one]; omega) (lies_src (fun j hj => by
        have hj' : j < i := by simp at hj; omega
        have hj2 : j < L.length := by omega
        have := hL j hj2
        simpa using this))
    have := run_append_grow_src (P := Yba.prog) W 22 9 22 5 inf _ Yba.underlying22 hi hzz (some ⟨B, 0, none⟩) i i (bytesV (L.take i)) hold (.string s) s.size (byteCells s) hsrc (by omega) (by omega) (growslice_fits (by omega) (by rw [hb1]; omega))
    refine ⟨_, _, _, this, ?_, by simp, grownCap_ge _ _ _ _, grownCap_le_maxLen _ _ _ _ (by unfold maxLen; omega), ((Below.refl _ _).drew).alloc (Nat.le_refl _) _⟩
    have hh : (W.drew.alloc (.cells ((bytesV (L.take i) ++ byteCells s).toArray ++ Builtin.zeroCells (Value.cells (.int .u8 0)) (grownCap W (i + s.size) i 5 - (i + s.size))) 5)).heap[W.heap.size]? = some (.cells ((bytesV (L.take i) ++ byteCells s).toArray ++ Builtin.zeroCells (Value.cells (.int .u8 0)) (grownCap W (i + s.size) i 5 - (i + s.size))) 5) := heap_alloc_new W.drew _
    refine lies_of_block (r := (Builtin.zeroCells (Value.cells (.int .u8 0)) (grownCap W (i + s.size) i 5 - (i + s.size))).toList) (t := 5) (fr := (0, 0)) ?_
    rw [hh, bytesV_append]
    congr 2
    apply Array.ext'
    simp [byteCells, bytesV]

theorem lies_take {w : World} {b : Nat} {l : List UInt8} (h : Lies w b l) (n : Nat) : Lies w b (l.take n) := fun j hj => by
  have hj2 : j < l.length := by simp at hj; omega
  have := h j hj2
  simpa using this

set_option maxHeartbeats 1000000 in
theorem model_walk (a0 : Option Addr) (len0 cap0 : Nat) (z0 : List Int) (a1 : Int) (s : ByteArray) (a3 : Bool) (a4 : Int) (w : World) (w0 : IsRow .u8 w a0 len0 cap0 z0) (w1 : 0 ≤ a1 ∧ a1 ≤ 18446744073709551615) (w2 : s.size ≤ maxLen) (w4 : 0 ≤ a4 ∧ a4 ≤ 255) :
    Calls Yba.prog 3 #[.slice a0 len0 cap0, .int .u64 a1, .string s, .bool a3, .int .u8 a4] w fun e w' => e = .returned (.bool true) ∧ Below w.heap.size w w' := by
  unfold maxLen at w2
  by_cases hbig : len0 ≤ 1024 ∧ s.size ≤ 1024
  · obtain ⟨hb1, hb2⟩ := hbig
    obtain ⟨L, hL, hsrc⟩ := row_bytes w0
    subst hL
    clear w0
    obtain ⟨C, hC, hmk⟩ := make_any L.length (by omega)
    have HC := hide hC
    have HS := hide hsrc
    clear hC hsrc
    have hd1 : decide ((1024 : Int) < (L.length : Int)) = false := decide_eq_false (by omega)
    have hd2 : decide ((1024 : Int) < (s.size : Int)) = false := decide_eq_false (by omega)
    go_enter Yba.func3, Yba.ntmps3
    go_upto_region 4 with fail
    have hG : (w.alloc (.cells C.toArray 5)).heap[w.heap.size]? = some (.cells C.toArray 5 (0, 0)) := heap_alloc_new w _
    have hB : Below w.heap.size w (w.alloc (.cells C.toArray 5)) := (Below.refl _ _).alloc (Nat.le_refl _) _
    have hZ : w.heap.size < (w.alloc (.cells C.toArray 5)).heap.size := by simp
    obtain ⟨W2, hcp, hG2, hB2, hz2, _⟩ := copy_run w _ w.heap.size L.length cap0 a0 L C hG HC.out hB (src_later hB HS.out)
    rw [← hz2] at hZ
    have HG2 := hide hG2
    have HB2 := hide hB2
    have HZ := hide hZ
    clear hG hB hG2 hB2 hz2 hZ HC HS
    go_upto_region 5 with fail
    clear hcp
    generalize hBB : w.heap.size = B at *
    have HBB := hide hBB
    have hBle : B ≤ w.heap.size := by omega
    clear hBB hmk
    obtain ⟨i, hi⟩ : ∃ i : Nat, (i : Int) = a1 % ((L.length : Int) + 3) := ⟨(a1 % ((L.length : Int) + 3)).toNat, Int.toNat_of_nonneg (Int.emod_nonneg _ (by omega))⟩
    have hi2 : i ≤ L.length + 2 := by have := Int.emod_lt_of_pos a1 (show (0 : Int) < (L.length : Int) + 3 by omega); omega
    have HI := hide hi
    clear hi
    go_upto_region 6 with fail
    have hw : wrap64 (a1 % ((L.length : Int) + 3)) = (i : Int) := by rw [← HI.out]; unfold wrap64; omega
    rw [hw]
    clear hw HI
    by_cases hil : i ≤ L.length
    all_goals cases a3
    all_goals
      go_upto_if 46 with fail
      go_cut [11, 13] from 47 to 64 (fun v _ wc => ∃ b l c, v = .slice (some ⟨b, 0, none⟩) (List.length (α := UInt8) l) c ∧ Lies wc b l ∧ b < wc.heap.size ∧ l.length ≤ 4096 ∧ l.length ≤ c ∧ c ≤ maxLen ∧ Below B w wc)
      case rest =>
        obtain ⟨b, l, c, rfl, hlies, hbz, hl1, hl2, hl3, hbel⟩ := hcut
        clear HG2 HB2 HZ
        have HL := hide hlies
        have HBE := hide hbel
        have HBZ := hide hbz
        clear hlies hbel hbz
        obtain ⟨C, hC, hmk⟩ := make_any l.length (by omega)
        have hG : (wc.alloc (.cells C.toArray 5)).heap[wc.heap.size]? = some (.cells C.toArray 5 (0, 0)) := heap_alloc_new wc _
        have hB : Below wc.heap.size wc (wc.alloc (.cells C.toArray 5)) := (Below.refl _ _).alloc (Nat.le_refl _) _
        have hL1 := HL.out.later HBZ.out hB
        obtain ⟨W3, hcp, hG3, hB3, hz3, hoth⟩ := copy_run wc _ wc.heap.size l.length c (some ⟨b, 0, none⟩) l C hG hC hB (fun _ => ⟨_, rfl, lies_src hL1⟩)
        have HL3 := hide (HL.out.later HBZ.out hB3)
        have HS3 := hide (lies_of_block (r := []) (by rw [List.append_nil]; exact hG3))
        have hbz3 : b < W3.heap.size := Nat.lt_of_lt_of_le HBZ.out hB3.size
        have hsz3 : wc.heap.size < W3.heap.size := by rw [hz3]; simp
        have HB3 := hide (HBE.out.trans (hB3.mono (Nat.le_trans hBle HBE.out.size)))
        clear hG hB hL1 hG3 hB3 hz3 hoth HL HBE HBZ hC
        go_wp2_with fail
        refine (check_any W3 b c l HL3.out hl1 hl2 hl3 i (by omega) s hb2).mono ?_
        rintro e w' ⟨rfl, hwx⟩
        subst hwx
        go_wp2_with fail
        refine (expect_any w' wc.heap.size l.length l HS3.out hsz3 hl1 i (by omega) s hb2).mono ?_
        rintro e W4 ⟨rfl, hb4⟩
        have HL4 := hide (HL3.out.later hbz3 hb4)
        have HS4 := hide (HS3.out.later hsz3 hb4)
        have hbz4 : b < W4.heap.size := Nat.lt_of_lt_of_le hbz3 hb4.size
        have hsz4 : wc.heap.size < W4.heap.size := Nat.lt_of_lt_of_le hsz3 hb4.size
        have HB4 := hide (HB3.out.trans (hb4.mono (Nat.le_trans hBle HB3.out.size)))
        clear HL3 HS3 hbz3 hsz3 hb4
        go_wp2_with fail
        refine (same_any W4 b c wc.heap.size l.length l HL4.out hbz4 HS4.out hsz4 hl1).mono ?_
        rintro e W5 ⟨rfl, hb5⟩
        have HB5 := hide (HB4.out.trans (hb5.mono (Nat.le_trans hBle HB4.out.size)))
        clear hb5
        go_wp2
        go_ret
        exact ⟨rfl, HBB.out.symm ▸ HB5.out⟩
    · go_wp2_with fail
      go_meet
      case rel => exact ⟨B, L, L.length, rfl, lies_of_block (r := []) (by rw [List.append_nil]; exact HG2.out), HZ.out, by omega, Nat.le_refl _, by unfold maxLen; omega, HB2.out⟩
    · go_upto_region 7 with fail
      obtain ⟨b, c, W3, hap, hl3, hbz3, hc3, hm3, hb3⟩ := plant_run W2 B i L s (lies_of_block (r := []) (by rw [List.append_nil]; exact HG2.out)) HZ.out hil hb1 hb2
      have HL3 := hide hl3
      have HB3 := hide (HB2.out.trans (hb3.mono (Nat.le_trans hBle HB2.out.size)))
      have HZ3 := hide hbz3
      clear hl3 hb3 hbz3 HG2 HB2 HZ
      unfold maxLen at hm3
      obtain ⟨cut, hcut⟩ : ∃ cut : Nat, (cut : Int) = a4 % ((s.size : Int) + 1) := ⟨(a4 % ((s.size : Int) + 1)).toNat, Int.toNat_of_nonneg (Int.emod_nonneg _ (by omega))⟩
      have hcl : cut ≤ s.size := by have := Int.emod_lt_of_pos a4 (show (0 : Int) < (s.size : Int) + 1 by omega); omega
      have HCU := hide hcut
      clear hcut
      have HAP := hide hap
      clear hap
      go_upto_region 9 with (at_builtin; refine wpList_append_run rfl (.tmp 50) (.tmp 51) 22 9 22 rfl rfl _ _ rfl rfl _ _ HAP.out ?_)
      rw [← HCU.out]
      clear HCU
      obtain ⟨n, hn⟩ : ∃ n : Nat, n = i + s.size - cut := ⟨_, rfl⟩
      have hnI : ((i : Int) + (s.size : Int) - (cut : Int)).toNat = n := by omega
      have hlen : ((L.take i ++ s.data.toList).take n).length = n := by simp; omega
      have HLEN := hide hlen
      clear hn hlen
      go_wp2_with fail
      go_meet
      case rel => exact ⟨b, (L.take i ++ s.data.toList).take n, c, by rw [HLEN.out], lies_take HL3.out n, HZ3.out, by rw [HLEN.out]; omega, by rw [HLEN.out]; omega, by unfold maxLen; omega, HB3.out⟩
    · go_wp2_with fail
      go_meet
      case rel => exact ⟨B, L, L.length, rfl, lies_of_block (r := []) (by rw [List.append_nil]; exact HG2.out), HZ.out, by omega, Nat.le_refl _, by unfold maxLen; omega, HB2.out⟩
    · go_wp2_with fail
      go_meet
      case rel => exact ⟨B, L, L.length, rfl, lies_of_block (r := []) (by rw [List.append_nil]; exact HG2.out), HZ.out, by omega, Nat.le_refl _, by unfold maxLen; omega, HB2.out⟩
  · have hd : decide ((1024 : Int) < (len0 : Int)) = true ∨ (decide ((1024 : Int) < (len0 : Int)) = false ∧ decide ((1024 : Int) < (s.size : Int)) = true) := by
      by_cases h : len0 ≤ 1024
      · exact .inr ⟨decide_eq_false (by omega), decide_eq_true (by omega)⟩
      · exact .inl (decide_eq_true (by omega))
    clear hbig
    rcases hd with hd | ⟨hd, hd'⟩
    all_goals
      go_enter Yba.func3, Yba.ntmps3
      go_wp2
      go_ret
      exact ⟨rfl, Below.refl _ _⟩
end Go.Proofs.Ybulkbhei
