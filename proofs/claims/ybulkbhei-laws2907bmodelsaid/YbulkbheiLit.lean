import Derived.Test.YbulkbheiProg
import Derived.WalkKit
import Derived.WalkSpells
import Derived.WalkLawsBesides
import Derived.Deep.RegionHeld3
import Derived.Deep.CutBlock
namespace Go.Proofs.Ybulkbhei
open Go.RowKit

theorem hide {p : Prop} (h : p) : Hid p := h
/-- The bytes l lie in block b from its head on. -/
def Lies (w : World) (b : Nat) (l : List UInt8) : Prop := ∀ j (hj : j < l.length), w.cell? ⟨b, j, none⟩ = some (.int .u8 (l[j].toNat : Int))
/-- wd stands at i in l. -/
def lit (l : List UInt8) (i : Nat) (wd : List UInt8) : Bool := decide (i + wd.length ≤ l.length) && ((l.drop i).take wd.length == wd)
def litEnd (l : List UInt8) (i : Nat) (wd : List UInt8) : Nat := if lit l i wd = true then i + wd.length else i

theorem ret2_int {k : IntKind} {a b : Int} {x y : Bool} (h : a = b) (h' : x = y) : Ending.returned (.tuple #[.int k a, .bool x]) = .returned (.tuple #[.int k b, .bool y]) := by rw [h, h']

theorem conv_at (w : World) (b : Nat) (l : List UInt8) (hc : Lies w b l) (i n c : Nat) (h : i + n ≤ l.length) :
    (convert 22 9 (.slice (some ⟨b, i, none⟩) n c)).run Yba.prog w = .ok (.string ⟨((l.drop i).take n).toArray⟩) w := by
  have hl : ((l.drop i).take n).length = n := by simp; omega
  have := run_convert_bytes_back (P := Yba.prog) w 22 9 5 ⟨b, i, none⟩ c ((l.drop i).take n) Yba.underlying22 Yba.underlying5 Yba.underlying9 (fun j hj => by
    rw [hl] at hj
    have e : (⟨b, i, none⟩ : Addr).add j = ⟨b, i + j, none⟩ := by simp [Addr.add]
    rw [e, hc (i + j) (by omega)]
    simp)
  rw [hl] at this
  exact this

theorem conv_zero (w : World) (p : Addr) (c : Nat) : (convert 22 9 (.slice (some p) 0 c)).run Yba.prog w = .ok (.string ⟨#[]⟩) w := by
  have := run_convert_bytes_back (P := Yba.prog) w 22 9 5 p c [] Yba.underlying22 Yba.underlying5 Yba.underlying9 (fun j hj => by simp at hj)
  simpa using this

theorem lit_of (l : List UInt8) (i : Nat) (s : ByteArray) (h : i + s.size ≤ l.length) : lit l i s.data.toList = (List.take s.size (List.drop i l) == s.toList) := by
  have hsz : s.data.toList.length = s.size := by simp
  unfold lit
  rw [hsz, decide_eq_true h, Bool.true_and, ByteArray.toList_eq]
theorem lit_out (l : List UInt8) (i : Nat) (s : ByteArray) (h : ¬ i + s.size ≤ l.length) : lit l i s.data.toList = false := by
  have hsz : s.data.toList.length = s.size := by simp
  unfold lit
  rw [hsz, decide_eq_false h, Bool.false_and]
theorem litEnd_yes (l : List UInt8) (i : Nat) (s : ByteArray) (h : lit l i s.data.toList = true) : litEnd l i s.data.toList = i + s.size := by
  have hsz : s.data.toList.length = s.size := by simp
  unfold litEnd
  rw [if_pos h, hsz]
theorem litEnd_no (l : List UInt8) (i : Nat) (s : ByteArray) (h : lit l i s.data.toList = false) : litEnd l i s.data.toList = i := by
  unfold litEnd
  rw [if_neg (by rw [h]; decide)]

set_option maxHeartbeats 400000 in
theorem check_any (w : World) (b c : Nat) (l : List UInt8) (hc : Lies w b l) (hl : l.length ≤ 4096) (hcap : l.length ≤ c) (hcc : c ≤ maxLen) (i : Nat) (hi : i ≤ 4096) (s : ByteArray) (hs : s.size ≤ 1024) :
    Calls Yba.prog 4 #[.slice (some ⟨b, 0, none⟩) l.length c, .int .i64 i, .string s] w fun e w' => e = .returned (.tuple #[.int .i64 (litEnd l i s.data.toList), .bool (lit l i s.data.toList)]) ∧ w' = w := by
  unfold maxLen at hcc
  by_cases hin : i + s.size ≤ l.length
  · have HL := hide (lit_of l i s hin)
    have hd : decide ((l.length : Int) - (i : Int) < (s.size : Int)) = false := decide_eq_false (by omega)
    by_cases hci : c = i
    · have h0 : s.size = 0 := by omega
      have hnil : s.toList = [] := by rw [ByteArray.toList_eq]; exact List.eq_nil_of_length_eq_zero (by simpa using h0)
      have hlt : lit l i s.data.toList = true := by rw [HL.out, h0, hnil]; rfl
      have HY := hide (litEnd_yes l i s hlt)
      have HT := hide hlt
      have hd0 : decide ((l.length : Int) - (i : Int) < 0) = false := decide_eq_false (by omega)
      have hcv := fun p c => conv_zero w p c
      clear hc hlt
      subst hci
      go_enter Yba.func4, Yba.ntmps4
      go_wp2
      go_ret2
      exact ⟨ret2_int (by rw [HY.out]; omega) HT.out.symm, rfl⟩
    · have hcv := conv_at w b l hc i s.size (c - i) hin
      clear hc
      generalize hm : (List.take s.size (List.drop i l) == s.toList) = m at *
      cases m
      · have HN := hide (litEnd_no l i s HL.out)
        go_enter Yba.func4, Yba.ntmps4
        go_wp2
        go_ret2
        exact ⟨ret2_int (by rw [HN.out]) HL.out.symm, rfl⟩
      · have HY := hide (litEnd_yes l i s HL.out)
        go_enter Yba.func4, Yba.ntmps4
        go_wp2
        go_ret2
        exact ⟨ret2_int (by rw [HY.out]; omega) HL.out.symm, rfl⟩
  · have HL := hide (lit_out l i s hin)
    have HN := hide (litEnd_no l i s HL.out)
    have hd : decide ((l.length : Int) - (i : Int) < (s.size : Int)) = true := decide_eq_true (by omega)
    clear hc
    go_enter Yba.func4, Yba.ntmps4
    go_wp2
    go_ret2
    exact ⟨ret2_int (by rw [HN.out]) HL.out.symm, rfl⟩
end Go.Proofs.Ybulkbhei
