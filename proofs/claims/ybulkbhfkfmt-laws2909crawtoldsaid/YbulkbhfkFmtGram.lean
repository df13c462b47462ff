import Derived.Test.YbulkbhfkFmtProg
import Derived.WalkKit
import Derived.WalkSpells
import Derived.WalkLawsBesides
import Derived.Deep.RegionHeld3
import Derived.Deep.CutBlock
namespace Go.Proofs.YbulkbhfkFmt
open Go.RowKit

theorem hide {p : Prop} (h : p) : Hid p := h
/-- The bytes l lie in block b from its head on. -/
def Lies (w : World) (b : Nat) (l : List UInt8) : Prop := ∀ j (hj : j < l.length), w.cell? ⟨b, j, none⟩ = some (.int .u8 (l[j].toNat : Int))

/-! ### The grammar, on bytes -/
/-- The byte at x, or 0 from the end on. -/
def byteAt (l : List UInt8) (x : Int) : Int := if h : x.toNat < l.length then (l[x.toNat].toNat : Int) else 0
def dig (b : Int) : Bool := decide (48 ≤ b) && decide (b ≤ 57)
/-- How many digits stand at the head. -/
def digs : List UInt8 → Nat
  | [] => 0
  | b :: r => if dig (b.toNat : Int) = true then digs r + 1 else 0
/-- The end of the digits that begin at x. -/
def skip (l : List UInt8) (x : Int) : Int := x + digs (l.drop x.toNat)

theorem byteAt_bd (l : List UInt8) (x : Int) : 0 ≤ byteAt l x ∧ byteAt l x ≤ 255 := by
  unfold byteAt; split
  · have := (l[x.toNat]).toNat_lt; omega
  · omega
theorem byteAt_in (l : List UInt8) (x : Int) (h : byteAt l x ≠ 0) : x.toNat < l.length := by
  unfold byteAt at h; split at h
  · assumption
  · exact absurd rfl h
theorem digs_le : ∀ l : List UInt8, digs l ≤ l.length
  | [] => Nat.le_refl _
  | b :: r => by have := digs_le r; unfold digs; split <;> simp <;> omega
theorem skip_bd (l : List UInt8) (x : Int) (h0 : 0 ≤ x) (h1 : x ≤ l.length) : x ≤ skip l x ∧ skip l x ≤ l.length := by
  unfold skip
  have := digs_le (l.drop x.toNat)
  simp only [List.length_drop] at this
  omega
theorem skip_bd' (l : List UInt8) (x : Int) (hl : l.length ≤ 1024) (h0 : 0 ≤ x) : x ≤ skip l x ∧ (skip l x ≤ x ∨ skip l x ≤ 1024) := by
  unfold skip
  have := digs_le (l.drop x.toNat)
  simp only [List.length_drop] at this
  omega
theorem skip_yes (l : List UInt8) (x : Int) (h0 : 0 ≤ x) (h : dig (byteAt l x) = true) : skip l x = skip l (x + 1) ∧ x.toNat < l.length := by
  have hx : x.toNat < l.length := byteAt_in l x (fun e => by rw [e] at h; exact absurd h (by decide))
  refine ⟨?_, hx⟩
  unfold skip
  have e : byteAt l x = (l[x.toNat].toNat : Int) := by unfold byteAt; rw [dif_pos hx]
  rw [e] at h
  rw [List.drop_eq_getElem_cons hx, digs, if_pos h, show (x + 1).toNat = x.toNat + 1 from by omega]
  omega
theorem skip_no (l : List UInt8) (x : Int) (h : dig (byteAt l x) = false) : skip l x = x := by
  unfold skip
  by_cases hx : x.toNat < l.length
  · have e : byteAt l x = (l[x.toNat].toNat : Int) := by unfold byteAt; rw [dif_pos hx]
    rw [e] at h
    rw [List.drop_eq_getElem_cons hx, digs, if_neg (by rw [h]; decide)]; simp
  · rw [List.drop_eq_nil_of_le (by omega)]; simp [digs]

def expo (l : List UInt8) (i : Int) : Int × Bool :=
  if (byteAt l i == 101 || byteAt l i == 69) = true then
    if (byteAt l (i + 1) == 43 || byteAt l (i + 1) == 45) = true then (if dig (byteAt l (i + 1 + 1)) = true then (skip l (i + 1 + 1), true) else (i + 1 + 1, false))
    else (if dig (byteAt l (i + 1)) = true then (skip l (i + 1), true) else (i + 1, false))
  else (i, true)
def frac (l : List UInt8) (i : Int) : Int × Bool :=
  if (byteAt l i == 46) = true then (if dig (byteAt l (i + 1)) = true then expo l (skip l (i + 1)) else (i + 1, false)) else expo l i
def whole (l : List UInt8) (i : Int) : Int × Bool :=
  if (byteAt l i == 48) = true then frac l (i + 1) else if dig (byteAt l i) = true then frac l (skip l i) else (i, false)
def gram (l : List UInt8) (p : Int) : Int × Bool := if (byteAt l p == 45) = true then whole l (p + 1) else whole l p

theorem ret_int {k : IntKind} {a b : Int} (h : a = b) : Ending.returned (.int k a) = .returned (.int k b) := by rw [h]
theorem ret_bool {a b : Bool} (h : a = b) : Ending.returned (.bool a) = .returned (.bool b) := by rw [h]
theorem ret2 {k : IntKind} {a b : Int} {x y : Bool} (h : (a, x) = (b, y)) : Ending.returned (.tuple #[.int k a, .bool x]) = .returned (.tuple #[.int k b, .bool y]) := by
  injection h with h1 h2; rw [h1, h2]

/-! ### The model's small functions -/
theorem dig_any (b : Int) (w : World) : Calls Ybaf.prog 13 #[.int .u8 b] w fun e w' => e = .returned (.bool (dig b)) ∧ w' = w := by
  by_cases h1 : 48 ≤ b
  all_goals by_cases h2 : b ≤ 57
  all_goals
    have E := hide (show dig b = (decide (48 ≤ b) && decide (b ≤ 57)) from rfl)
    go_enter Ybaf.func13, Ybaf.ntmps13
    go_wp2
    go_ret
    exact ⟨ret_bool (by rw [E.out]; simp; omega), rfl⟩

theorem isDigit_any (b : Int) (w : World) : Calls Ybaf.prog 9 #[.int .u8 b] w fun e w' => e = .returned (.bool (dig b)) ∧ w' = w := by
  by_cases h1 : 48 ≤ b
  all_goals by_cases h2 : b ≤ 57
  all_goals
    have E := hide (show dig b = (decide (48 ≤ b) && decide (b ≤ 57)) from rfl)
    go_enter Ybaf.func9, Ybaf.ntmps9
    go_wp2
    go_ret
    exact ⟨ret_bool (by rw [E.out]; simp; omega), rfl⟩

set_option maxHeartbeats 400000 in
theorem at_any (w : World) (b c : Nat) (l : List UInt8) (hc : Lies w b l) (x : Int) (h0 : 0 ≤ x) (hl : l.length ≤ 1024) :
    Calls Ybaf.prog 12 #[.slice (some ⟨b, 0, none⟩) l.length c, .int .i64 x] w fun e w' => e = .returned (.int .u8 (byteAt l x)) ∧ w' = w := by
  by_cases hx : x.toNat < l.length
  · have e : byteAt l x = (l[x.toNat].toNat : Int) := by unfold byteAt; rw [dif_pos hx]
    have E := hide e
    clear e
    have hcell := hc x.toNat hx
    have hlt : x < (l.length : Int) := by omega
    clear hc
    go_enter Ybaf.func12, Ybaf.ntmps12
    go_wp2
    go_ret
    exact ⟨ret_int E.out.symm, rfl⟩
  · have e : byteAt l x = 0 := by unfold byteAt; rw [dif_neg hx]
    have E := hide e
    clear e hc
    have hlt : ¬ x < (l.length : Int) := by omega
    go_enter Ybaf.func12, Ybaf.ntmps12
    go_wp2
    go_ret
    exact ⟨ret_int E.out.symm, rfl⟩

set_option maxHeartbeats 400000 in
theorem skip_any (w : World) (b c : Nat) (l : List UInt8) (hc : Lies w b l) (x : Int) (h0 : 0 ≤ x) (h1 : x ≤ 4096) (hl : l.length ≤ 1024) :
    Calls Ybaf.prog 14 #[.slice (some ⟨b, 0, none⟩) l.length c, .int .i64 x] w fun e w' => e = .returned (.int .i64 (skip l x)) ∧ (x ≤ skip l x ∧ (skip l x ≤ x ∨ skip l x ≤ 1024)) ∧ w' = w := by
  have HBD := hide (skip_bd' l x hl h0)
  have HC := hide hc
  clear hc
  go_enter Ybaf.func14, Ybaf.ntmps14
  go_wp2
  go_loop [1] (fun t => ∃ k : Nat, k ≤ 4096 ∧ t = .int .i64 k ∧ skip l k = skip l x) (fun t => l.length - (intOf t).toNat)
  case atStart => exact ⟨x.toNat, by omega, by rw [Int.toNat_of_nonneg h0], by rw [Int.toNat_of_nonneg h0]⟩
  case round =>
    obtain ⟨k, hk, rfl, hsk⟩ := hrel
    have HSK := hide hsk
    clear hsk
    by_cases hlt : k < l.length
    · have hcell := HC.out k hlt
      have e : byteAt l k = (l[k].toNat : Int) := by unfold byteAt; rw [dif_pos (by simpa using hlt)]; rfl
      have E := hide e
      clear e
      generalize hv : (l[k].toNat : Int) = v at *
      cases hdg : dig v
      · have HN := hide (skip_no l k (by rw [E.out]; exact hdg))
        have hdg' : dig v = false := hdg
        go_wp2_with (go_at_call 13; refine (dig_any v _).mono ?_; rintro e w' ⟨rfl, rfl⟩)
        go_ret
        exact ⟨ret_int (by rw [← HSK.out, HN.out]), HBD.out, rfl⟩
      · have HY := hide (skip_yes l k (by omega) (by rw [E.out]; exact hdg)).1
        have hdg' : dig v = true := hdg
        go_wp2_with (go_at_call 13; refine (dig_any v _).mono ?_; rintro e w' ⟨rfl, rfl⟩)
        go_round
        case rel => exact ⟨k + 1, by omega, by go_num, by rw [← HSK.out, HY.out]; rfl⟩
        case measure => simp [intOf]; omega
    · have HN := hide (skip_no l k (by unfold byteAt; rw [dif_neg (by simpa using hlt)]; rfl))
      go_wp2
      go_ret
      exact ⟨ret_int (by rw [← HSK.out, HN.out]), HBD.out, rfl⟩
end Go.Proofs.YbulkbhfkFmt
