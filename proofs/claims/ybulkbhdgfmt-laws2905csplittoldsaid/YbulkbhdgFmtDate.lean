import Derived.Test.YbulkbhdgFmtDays
import Derived.Lib.SlBytesConst
import Derived.Deep.CutBlock
namespace Go.Proofs.YbulkbhdgFmt
open Go.RowKit

theorem ret_int {k : IntKind} {a b : Int} (h : a = b) : Ending.returned (.int k a) = .returned (.int k b) := by rw [h]
theorem ret_str {a b : ByteArray} (h : a = b) : Ending.returned (.string a) = .returned (.string b) := by rw [h]

set_option maxHeartbeats 400000 in
theorem number_date (n : Nat) (w : World) (hn : n ≤ 365) :
    Calls Ybaf.prog 8 #[.string (dateS n)] w fun e w' => e = .returned (.int .i64 (num0 + n)) ∧ w' = w := by
  generalize hs : dateS n = s
  have hc := dayNumber_date n
  rw [hs] at hc
  have HC := hide hc
  clear hc hs
  go_enter Ybaf.func8, Ybaf.ntmps8
  go_wp2_with (go_at_call 9; refine (HC.out _ hn).mono ?_; rintro e w' ⟨rfl, rfl⟩)
  go_ret
  exact ⟨rfl, rfl⟩

set_option maxHeartbeats 400000 in
theorem days_date (a b : Nat) (w : World) (ha : a ≤ 365) (hb : b ≤ 365) :
    Calls Ybaf.prog 7 #[.string (dateS a), .string (dateS b)] w fun e w' => e = .returned (.int .i64 ((b : Int) - a)) ∧ w' = w := by
  generalize hs : dateS a = s
  generalize ht : dateS b = t
  have hc := fun w => number_date a w ha
  have hd := fun w => number_date b w hb
  rw [hs] at hc
  rw [ht] at hd
  have HC := hide hc
  have HD := hide hd
  clear hc hs hd ht
  unfold num0 at HC HD
  go_enter Ybaf.func7, Ybaf.ntmps7
  go_wp2_with fail
  refine (HD.out _).mono ?_; rintro e w' ⟨rfl, rfl⟩
  go_wp2_with fail
  refine (HC.out _).mono ?_; rintro e w' ⟨rfl, rfl⟩
  go_wp2_with fail
  go_ret
  exact ⟨ret_int (by omega), rfl⟩

def monthsObj : Obj := .cells #[.int .i64 31, .int .i64 29, .int .i64 31, .int .i64 30, .int .i64 31, .int .i64 30, .int .i64 31, .int .i64 31, .int .i64 30, .int .i64 31, .int .i64 30, .int .i64 31] 41
theorem months_cell (w : World) (m : Nat) (hm : m ≤ 11) : (w.alloc monthsObj).cell? ⟨w.heap.size, m, none⟩ = some (.int .i64 (mlen m)) := by
  have : m = 0 ∨ m = 1 ∨ m = 2 ∨ m = 3 ∨ m = 4 ∨ m = 5 ∨ m = 6 ∨ m = 7 ∨ m = 8 ∨ m = 9 ∨ m = 10 ∨ m = 11 := by omega
  rcases this with rfl | rfl | rfl | rfl | rfl | rfl | rfl | rfl | rfl | rfl | rfl | rfl <;> simp [monthsObj, mlen]

def rowObj : Obj := .cells #[.int .u8 50, .int .u8 48, .int .u8 50, .int .u8 52, .int .u8 45, .int .u8 48, .int .u8 48, .int .u8 45, .int .u8 48, .int .u8 48] 5 (10, 11)
theorem row_facts (W : World) : (W.alloc rowObj).cell? ⟨W.heap.size, 0, none⟩ = some (.int .u8 50) ∧ (W.alloc rowObj).cell? ⟨W.heap.size, 1, none⟩ = some (.int .u8 48) ∧ (W.alloc rowObj).cell? ⟨W.heap.size, 2, none⟩ = some (.int .u8 50) ∧
    (W.alloc rowObj).cell? ⟨W.heap.size, 3, none⟩ = some (.int .u8 52) ∧ (W.alloc rowObj).cell? ⟨W.heap.size, 4, none⟩ = some (.int .u8 45) ∧ (W.alloc rowObj).cell? ⟨W.heap.size, 5, none⟩ = some (.int .u8 48) ∧ (W.alloc rowObj).cell? ⟨W.heap.size, 6, none⟩ = some (.int .u8 48) ∧
    (W.alloc rowObj).cell? ⟨W.heap.size, 7, none⟩ = some (.int .u8 45) ∧ (W.alloc rowObj).cell? ⟨W.heap.size, 8, none⟩ = some (.int .u8 48) ∧ (W.alloc rowObj).cell? ⟨W.heap.size, 9, none⟩ = some (.int .u8 48) ∧
    (W.alloc rowObj).frozen? ⟨W.heap.size, 5, none⟩ = false ∧ (W.alloc rowObj).frozen? ⟨W.heap.size, 6, none⟩ = false ∧ (W.alloc rowObj).frozen? ⟨W.heap.size, 8, none⟩ = false ∧ (W.alloc rowObj).frozen? ⟨W.heap.size, 9, none⟩ = false ∧
    Hid (Below W.heap.size W (W.alloc rowObj)) ∧ Hid (W.heap.size < (W.alloc rowObj).heap.size) := by
  have hh : (W.alloc rowObj).heap[W.heap.size]? = some rowObj := heap_alloc_new W _
  refine ⟨?_, ?_, ?_, ?_, ?_, ?_, ?_, ?_, ?_, ?_, ?_, ?_, ?_, ?_, (Below.refl _ _).alloc (Nat.le_refl _) _, ?_⟩
  all_goals first | (simp only [World.cell?, hh]; rfl) | (simp only [World.frozen?, hh]; rfl) | exact (by simp : W.heap.size < (W.alloc rowObj).heap.size)

/-- The row behind its four stores. -/
def stored (W : World) (B : Nat) (a b c d : Int) : World := (((W.setCell ⟨B, 5, none⟩ (.int .u8 a)).setCell ⟨B, 6, none⟩ (.int .u8 b)).setCell ⟨B, 8, none⟩ (.int .u8 c)).setCell ⟨B, 9, none⟩ (.int .u8 d)
theorem conv_row (W : World) (B : Nat) (c0 : W.cell? ⟨B, 0, none⟩ = some (.int .u8 50)) (c1 : W.cell? ⟨B, 1, none⟩ = some (.int .u8 48)) (c2 : W.cell? ⟨B, 2, none⟩ = some (.int .u8 50)) (c3 : W.cell? ⟨B, 3, none⟩ = some (.int .u8 52)) (c4 : W.cell? ⟨B, 4, none⟩ = some (.int .u8 45))
    (c5 : W.cell? ⟨B, 5, none⟩ = some (.int .u8 48)) (c6 : W.cell? ⟨B, 6, none⟩ = some (.int .u8 48)) (c7 : W.cell? ⟨B, 7, none⟩ = some (.int .u8 45)) (c8 : W.cell? ⟨B, 8, none⟩ = some (.int .u8 48)) (c9 : W.cell? ⟨B, 9, none⟩ = some (.int .u8 48))
    (m d : Nat) (hm : m ≤ 99) (hd : d ≤ 99) (mi di : Int) (hmi : mi = m) (hdi : di = d) :
    (convert 39 9 (.slice (some ⟨B, 0, none⟩) 10 10)).run Ybaf.prog (stored W B (48 + mi / 10) (48 + mi % 10) (48 + di / 10) (48 + di % 10)) = .ok (.string ⟨(dateL m d).toArray⟩) (stored W B (48 + mi / 10) (48 + mi % 10) (48 + di / 10) (48 + di % 10)) := by
  have e1 : ∀ k : Nat, k ≤ 99 → (((48 + k / 10).toUInt8.toNat : Nat) : Int) = 48 + (k : Int) / 10 := fun k hk => by
    have : (48 + k / 10).toUInt8.toNat = 48 + k / 10 := by simp; omega
    rw [this]; omega
  have e2 : ∀ k : Nat, k ≤ 99 → (((48 + k % 10).toUInt8.toNat : Nat) : Int) = 48 + (k : Int) % 10 := fun k hk => by
    have : (48 + k % 10).toUInt8.toNat = 48 + k % 10 := by simp; omega
    rw [this]; omega
  subst hmi hdi
  refine run_convert_bytes_back (P := Ybaf.prog) (stored W B (48 + (m : Int) / 10) (48 + (m : Int) % 10) (48 + (d : Int) / 10) (48 + (d : Int) % 10)) 39 9 5 ⟨B, 0, none⟩ 10 (dateL m d) Ybaf.underlying39 Ybaf.underlying5 Ybaf.underlying9 ?_
  intro j hj
  have hj : j < 10 := hj
  have : j = 0 ∨ j = 1 ∨ j = 2 ∨ j = 3 ∨ j = 4 ∨ j = 5 ∨ j = 6 ∨ j = 7 ∨ j = 8 ∨ j = 9 := by omega
  have x1 := e1 m hm
  have x2 := e2 m hm
  have x3 := e1 d hd
  have x4 := e2 d hd
  rcases this with rfl | rfl | rfl | rfl | rfl | rfl | rfl | rfl | rfl | rfl <;> simp only [dateL, List.getElem_cons_succ, List.getElem_cons_zero, x1, x2, x3, x4, stored] <;> simp [Addr.add, go_sem, c0, c1, c2, c3, c4, c5, c6, c7, c8, c9]

theorem day_le (n m : Nat) (hn : n ≤ 365) (hm : mon n = m) : n - cum m + 1 ≤ 99 := by
  have h1 := dom_bd n hn
  have h2 := mlen_bd (mon n)
  unfold dom at h1
  rw [hm] at h1 h2
  omega
theorem date_eq (n m : Nat) (hm : mon n = m) : (⟨(dateL (m + 1) (n - cum m + 1)).toArray⟩ : ByteArray) = dateS n := by
  unfold dateS dom; rw [hm]
theorem stored_below {B B2 : Nat} {w W W2 : World} (h : Below B w W) (h2 : Below B2 W W2) (hz : B < B2) (x y z u : Int) : Below B w (stored W2 B2 x y z u) :=
  ((((h.trans (h2.mono (by omega))).setCell (p := ⟨B2, 5, none⟩) (by show B ≤ B2; omega) _).setCell (p := ⟨B2, 6, none⟩) (by show B ≤ B2; omega) _).setCell (p := ⟨B2, 8, none⟩) (by show B ≤ B2; omega) _).setCell (p := ⟨B2, 9, none⟩) (by show B ≤ B2; omega) _

set_option maxHeartbeats 1000000 in
theorem date_any (n : Nat) (w : World) (hn : n ≤ 365) :
    Calls Ybaf.prog 5 #[.int .i64 n] w fun e w' => e = .returned (.string (dateS n)) ∧ Below w.heap.size w w' := by
  have hc := months_cell w
  have hb : Below w.heap.size w (w.alloc monthsObj) := (Below.refl _ _).alloc (Nat.le_refl _) _
  have hz : w.heap.size < (w.alloc monthsObj).heap.size := by simp
  have HC := hide hc
  have HB := hide hb
  clear hc hb
  have kc := fun (w : World) (C : Array Value) (n c : Nat) => Lib.run_convert_bytes_const (P := Ybaf.prog) w 39 5 C n c Ybaf.underlying39 Ybaf.underlying5
  go_enter Ybaf.func5, Ybaf.ntmps5
  go_wp2
  change Code.wp _ _ _ _ (w.alloc monthsObj)
  generalize w.alloc monthsObj = W at *
  generalize hBB : w.heap.size = B at *
  have HBB := hide hBB
  clear hBB
  go_loop [0, 4] (fun r i => ∃ m : Nat, m ≤ 11 ∧ i = .int .i64 m ∧ cum m ≤ n ∧ r = .int .i64 ((n : Int) - cum m)) (fun _ i => 11 - (intOf i).toNat)
  case atStart => exact ⟨0, by omega, rfl, Nat.zero_le _, by simp [cum]⟩
  case round =>
    obtain ⟨m, hm, rfl, hcm, rfl⟩ := hrel
    have hcell := HC.out m hm
    have hml := mlen_bd m
    by_cases hlt : m < 11
    · have hcs := hide (cum_succ m hlt)
      by_cases hge : mlen m ≤ (n : Int) - cum m
      · go_wp2
        go_round
        case rel => exact ⟨m + 1, by omega, by go_num, by have := hcs.out; omega, by rw [hcs.out]; go_num⟩
        case measure => simp [intOf]; omega
      · have hmon := mon_eq n m hn hm hcm (by omega)
        have HM := hide hmon
        clear hmon
        go_upto_region 9 with fail
        obtain ⟨c0, c1, c2, c3, c4, c5, c6, c7, c8, c9, f5, f6, f8, f9, hb2, hz2⟩ := row_facts W
        change Code.wp _ _ _ _ (W.alloc rowObj)
        generalize W.alloc rowObj = W2 at *
        generalize W.heap.size = B2 at *
        go_upto_region 13 with fail
        have hcv := conv_row W2 B2 c0 c1 c2 c3 c4 c5 c6 c7 c8 c9 (m + 1) (n - cum m + 1) (by omega) (day_le n m hn HM.out) (m + 1) (n - cum m + 1) (by omega) (by omega)
        change Code.wp _ _ _ _ (stored W2 B2 _ _ _ _)
        have hb3 := hide (stored_below HB.out hb2.out hz (48 + ((m : Int) + 1) / 10) (48 + ((m : Int) + 1) % 10) (48 + ((n : Int) - cum m + 1) / 10) (48 + ((n : Int) - cum m + 1) % 10))
        generalize stored W2 B2 _ _ _ _ = W3 at *
        go_wp2
        go_ret
        exact ⟨ret_str (date_eq n m HM.out), HBB.out.symm ▸ hb3.out⟩
    · have hmon := mon_eq n m hn hm hcm (by omega)
      have HM := hide hmon
      clear hmon
      go_upto_region 9 with fail
      obtain ⟨c0, c1, c2, c3, c4, c5, c6, c7, c8, c9, f5, f6, f8, f9, hb2, hz2⟩ := row_facts W
      change Code.wp _ _ _ _ (W.alloc rowObj)
      generalize W.alloc rowObj = W2 at *
      generalize W.heap.size = B2 at *
      go_upto_region 13 with fail
      have hcv := conv_row W2 B2 c0 c1 c2 c3 c4 c5 c6 c7 c8 c9 (m + 1) (n - cum m + 1) (by omega) (day_le n m hn HM.out) (m + 1) (n - cum m + 1) (by omega) (by omega)
      change Code.wp _ _ _ _ (stored W2 B2 _ _ _ _)
      have hb3 := hide (stored_below HB.out hb2.out hz (48 + ((m : Int) + 1) / 10) (48 + ((m : Int) + 1) % 10) (48 + ((n : Int) - cum m + 1) / 10) (48 + ((n : Int) - cum m + 1) % 10))
      generalize stored W2 B2 _ _ _ _ = W3 at *
      go_wp2
      go_ret
      exact ⟨ret_str (date_eq n m HM.out), HBB.out.symm ▸ hb3.out⟩
end Go.Proofs.YbulkbhdgFmt
