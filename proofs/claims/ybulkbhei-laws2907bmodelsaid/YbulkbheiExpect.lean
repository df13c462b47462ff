import Derived.Test.YbulkbheiLit
namespace Go.Proofs.Ybulkbhei
open Go.RowKit

theorem Lies.later {w w2 : World} {b : Nat} {l : List UInt8} (h : Lies w b l) (hb : b < w.heap.size) (hw : Below w.heap.size w w2) : Lies w2 b l := fun j hj => by
  rw [hw.cell (p := ⟨b, j, none⟩) hb]; exact h j hj
theorem below_drew (w : World) : Below w.heap.size w w.drew := (Below.refl _ _).drew
theorem below_go {w a b : World} (h : Below w.heap.size w a) (k : Below a.heap.size a b) : Below w.heap.size w b := h.trans (k.mono h.size)

theorem take_step (l : List UInt8) (s : ByteArray) (i k : Nat) (hk : k < s.size) (hl : i + k < l.length) (h : (l.drop i).take k = s.data.toList.take k) (he : l[i + k] = s[k]) : (l.drop i).take (k + 1) = s.data.toList.take (k + 1) := by
  rw [List.take_succ_eq_append_getElem (by simp; omega), List.take_succ_eq_append_getElem (by simpa using hk), h]
  congr 1
  simp [he]
  rfl
theorem lit_stop (l : List UInt8) (s : ByteArray) (i k : Nat) (hk : k < s.size) (hl : i + s.size ≤ l.length) (he : l[i + k]'(by omega) ≠ s[k]) : lit l i s.data.toList = false := by
  rw [lit_of l i s hl]
  rw [beq_eq_false_iff_ne]
  intro h
  apply he
  rw [ByteArray.toList_eq] at h
  have h2 : (List.take s.size (List.drop i l))[k]? = s.data.toList[k]? := by rw [h]
  rw [List.getElem?_take_of_lt hk, List.getElem?_drop, List.getElem?_eq_getElem (by omega), List.getElem?_eq_getElem (by simpa using hk)] at h2
  exact Option.some.inj h2
theorem lit_all (l : List UInt8) (s : ByteArray) (i : Nat) (hl : i + s.size ≤ l.length) (h : (l.drop i).take s.size = s.data.toList.take s.size) : lit l i s.data.toList = true := by
  rw [lit_of l i s hl, h, List.take_of_length_le (by simp), ByteArray.toList_eq]; simp

set_option maxHeartbeats 400000 in
theorem expect_any (w : World) (b c : Nat) (l : List UInt8) (hc : Lies w b l) (hb : b < w.heap.size) (hl : l.length ≤ 4096) (i : Nat) (hi : i ≤ 4096) (s : ByteArray) (hs : s.size ≤ 1024) :
    Calls Yba.prog 5 #[.slice (some ⟨b, 0, none⟩) l.length c, .int .i64 i, .string s] w fun e w' => e = .returned (.tuple #[.int .i64 (litEnd l i s.data.toList), .bool (lit l i s.data.toList)]) ∧ Below w.heap.size w w' := by
  have HC := hide hc
  clear hc
  by_cases hin : i + s.size ≤ l.length
  · have hd : decide ((l.length : Int) < (i : Int) + (s.size : Int)) = false := decide_eq_false (by omega)
    go_enter Yba.func5, Yba.ntmps5
    go_wp2
    go_loopw [8] (fun t wr => ∃ k : Nat, k ≤ s.size ∧ t = .int .i64 k ∧ Hid ((l.drop i).take k = s.data.toList.take k) ∧ Below w.heap.size w wr) (fun t _ => s.size - (intOf t).toNat)
    case atStart => exact ⟨0, by omega, rfl, rfl, Below.refl _ _⟩
    case round =>
      obtain ⟨k, hk, rfl, ht, hbe⟩ := hrel
      have HB := hide hbe
      clear hbe
      by_cases hlt : k < s.size
      · have hik : i + k < l.length := by omega
        have hcell : wr.cell? ⟨b, i + k, none⟩ = some (.int .u8 (l[i + k].toNat : Int)) := (HC.out.later hb HB.out) (i + k) hik
        have b0 : (0 : Int) ≤ (i : Int) + k := by omega
        have b1 : (i : Int) + k < l.length := by omega
        have b2 : IntKind.i64.wrap ((i : Int) + (k : Int)) = (i : Int) + k := by rw [IntKind.wrap_i64]; omega
        have b3 : ((i : Int) + (k : Int)).toNat = i + k := by omega
        have b4 : (0 : Int) ≤ (k : Int) := by omega
        have b5 : (k : Int) < s.size := by omega
        by_cases he : l[i + k] = s[k]
        · have HS := hide (take_step l s i k hlt hik ht.out he)
          have hee : ((l[i + k].toNat : Int) != (s[k].toNat : Int)) = false := by rw [he]; simp
          have HE := hide he
          clear he
          go_wp2_with fail
          go_region_held3 (fun w' => w'.cell? ⟨b, i + k, none⟩ = some (.int .u8 (l[i + k].toNat : Int))) (go_keep) (fail)
          go_wp2
          go_roundw
          case rel => exact ⟨k + 1, by omega, by go_num, HS.out, HB.out.drew⟩
          case measure => simp [intOf]; omega
        · have HL := hide (lit_stop l s i k hlt hin he)
          have HN := hide (litEnd_no l i s HL.out)
          have hee : ((l[i + k].toNat : Int) != (s[k].toNat : Int)) = true := by
            rw [bne_iff_ne]; intro h; apply he; exact UInt8.toNat_inj.1 (by omega)
          clear he
          go_wp2_with fail
          go_region_held3 (fun w' => w'.cell? ⟨b, i + k, none⟩ = some (.int .u8 (l[i + k].toNat : Int))) (go_keep) (fail)
          go_wp2
          go_ret2
          exact ⟨ret2_int (by rw [HN.out]) HL.out.symm, HB.out.drew⟩
      · obtain rfl : k = s.size := by omega
        have HL := hide (lit_all l s i hin ht.out)
        have HY := hide (litEnd_yes l i s HL.out)
        go_wp2
        go_ret2
        exact ⟨ret2_int (by rw [HY.out]; omega) HL.out.symm, HB.out⟩
  · have HL := hide (lit_out l i s hin)
    have HN := hide (litEnd_no l i s HL.out)
    have hd : decide ((l.length : Int) < (i : Int) + (s.size : Int)) = true := decide_eq_true (by omega)
    go_enter Yba.func5, Yba.ntmps5
    go_wp2
    go_ret2
    exact ⟨ret2_int (by rw [HN.out]) HL.out.symm, Below.refl _ _⟩

set_option maxHeartbeats 400000 in
theorem same_any (w : World) (b c b' c' : Nat) (l : List UInt8) (hc : Lies w b l) (hb : b < w.heap.size) (hc' : Lies w b' l) (hb' : b' < w.heap.size) (hl : l.length ≤ 4096) :
    Calls Yba.prog 6 #[.slice (some ⟨b, 0, none⟩) l.length c, .slice (some ⟨b', 0, none⟩) l.length c'] w fun e w' => e = .returned (.bool true) ∧ Below w.heap.size w w' := by
  have HC := hide hc
  have HC' := hide hc'
  clear hc hc'
  go_enter Yba.func6, Yba.ntmps6
  go_wp2
  go_loopw [5] (fun t wr => ∃ k : Nat, k ≤ l.length ∧ t = .int .i64 k ∧ Below w.heap.size w wr) (fun t _ => l.length - (intOf t).toNat)
  case atStart => exact ⟨0, by omega, rfl, Below.refl _ _⟩
  case round =>
    obtain ⟨k, hk, rfl, hbe⟩ := hrel
    have HB := hide hbe
    clear hbe
    by_cases hlt : k < l.length
    · have h1 : wr.cell? ⟨b, k, none⟩ = some (.int .u8 (l[k].toNat : Int)) := (HC.out.later hb HB.out) k hlt
      have h2 : wr.cell? ⟨b', k, none⟩ = some (.int .u8 (l[k].toNat : Int)) := (HC'.out.later hb' HB.out) k hlt
      have b0 : (0 : Int) ≤ (k : Int) := by omega
      have b1 : (k : Int) < l.length := by omega
      go_wp2_with fail
      go_region_held3 (fun w' => w'.cell? ⟨b, k, none⟩ = some (.int .u8 (l[k].toNat : Int)) ∧ w'.cell? ⟨b', k, none⟩ = some (.int .u8 (l[k].toNat : Int))) (go_keep) (fail)
      go_wp2
      go_roundw
      case rel => exact ⟨k + 1, by omega, by go_num, HB.out.drew⟩
      case measure => simp [intOf]; omega
    · go_wp2
      go_ret
      exact ⟨rfl, HB.out⟩
end Go.Proofs.Ybulkbhei
