import Derived.Test.YbulkbhdgFmtProg
import Derived.Test.YbulkbhdgFmtPlain
import Derived.WalkKit
import Derived.WalkSpells
import Derived.WalkLawsBesides
import Derived.Deep.RegionWith
namespace Go.Proofs.YbulkbhdgFmt
open Go.RowKit

theorem hide {p : Prop} (h : p) : Hid p := h
theorem ret2_int {k : IntKind} {a b : Int} {v : Value} (h : a = b) : Ending.returned (.tuple #[.int k a, v]) = .returned (.tuple #[.int k b, v]) := by rw [h]
/-- The number that digits stand for. -/
def numv (l : List UInt8) : Int := l.foldl (fun n c => n * 10 + ((c.toNat : Int) - 48)) 0
theorem numv_snoc (l : List UInt8) (c : UInt8) : numv (l ++ [c]) = numv l * 10 + ((c.toNat : Int) - 48) := by simp [numv]
theorem take_snoc (s : ByteArray) (k : Nat) (h : k < s.size) : s.data.toList.take (k + 1) = s.data.toList.take k ++ [s[k]] := by
  rw [List.take_succ_eq_append_getElem (by simpa using h)]; rfl

set_option maxHeartbeats 400000 in
theorem digits_any (s : ByteArray) (w : World) (hs : s.size ≤ 4) (hd : ∀ i (h : i < s.size), 48 ≤ (s[i].toNat : Int) ∧ (s[i].toNat : Int) ≤ 57) :
    Calls Ybaf.prog 11 #[.string s] w fun e w' => e = .returned (.tuple #[.int .i64 (numv s.data.toList), .bool true]) ∧ w' = w := by
  go_enter Ybaf.func11, Ybaf.ntmps11
  go_wp2
  go_loop [4, 5] (fun n i => ∃ k : Nat, k ≤ s.size ∧ i = .int .i64 k ∧ n = .int .i64 (numv (s.data.toList.take k)) ∧ 0 ≤ numv (s.data.toList.take k) ∧ numv (s.data.toList.take k) < 10 ^ k) (fun _ i => s.size - (intOf i).toNat)
  case atStart => exact ⟨0, Nat.zero_le _, rfl, rfl, by simp [numv], by simp [numv]⟩
  case round =>
    obtain ⟨k, hk, rfl, rfl, h0, h1⟩ := hrel
    have hp : (10 : Int) ^ k ≤ 10000 := by
      have : k = 0 ∨ k = 1 ∨ k = 2 ∨ k = 3 ∨ k = 4 := by omega
      rcases this with rfl | rfl | rfl | rfl | rfl <;> decide
    by_cases hlt : k < s.size
    · have hsn := numv_snoc (s.data.toList.take k) s[k]
      rw [← take_snoc s k hlt] at hsn
      have HS := hide hsn
      obtain ⟨d1, d2⟩ := hd k hlt
      have hpk : (10 : Int) ^ (k + 1) = 10 ^ k * 10 := Int.pow_succ ..
      have HP := hide hpk
      have HB := hide h1
      generalize (10 : Int) ^ k = pk at *
      clear hsn hpk hd
      go_wp2
      go_round
      case rel =>
        have HS := HS.out
        have HP := HP.out
        exact ⟨k + 1, by omega, by go_num, by rw [HS], by rw [HS]; omega, by rw [HS, HP]; omega⟩
      case measure => simp [intOf]; omega
    · go_wp2
      go_ret2
      rw [List.take_of_length_le (by simp; omega)]
      exact ⟨rfl, rfl⟩

set_option maxHeartbeats 400000 in
theorem monthDays_any (m : Int) (w : World) (h1 : 1 ≤ m) (h2 : m ≤ 12) :
    Calls Ybaf.prog 12 #[.int .i64 2024, .int .i64 m] w fun e w' => e = .returned (.int .i64 (mlen (m - 1).toNat)) ∧ w' = w := by
  have : m = 1 ∨ m = 2 ∨ m = 3 ∨ m = 4 ∨ m = 5 ∨ m = 6 ∨ m = 7 ∨ m = 8 ∨ m = 9 ∨ m = 10 ∨ m = 11 ∨ m = 12 := by omega
  rcases this with rfl | rfl | rfl | rfl | rfl | rfl | rfl | rfl | rfl | rfl | rfl | rfl
  all_goals
    go_enter Ybaf.func12, Ybaf.ntmps12
    go_wp2
    go_ret
    exact ⟨rfl, rfl⟩

/-- 'digits' reads s as v. -/
def Reads (s : ByteArray) (v : Int) : Prop := ∀ w, Calls Ybaf.prog 11 #[.string s] w fun e w' => e = .returned (.tuple #[.int .i64 v, .bool true]) ∧ w' = w

set_option maxHeartbeats 1000000 in
theorem dayNumber_any (s : ByteArray) (w : World) (hsz : s.size = 10) (h4 : ((s[4]'(by omega)).toNat : Int) = 45) (h7 : ((s[7]'(by omega)).toNat : Int) = 45)
    (m dd : Int) (r0 : Reads (s.extract 0 4) 2024) (r1 : Reads (s.extract 5 7) m) (r2 : Reads (s.extract 8 10) dd) (m1 : 1 ≤ m) (m2 : m ≤ 12) (d1 : 1 ≤ dd) (d2 : dd ≤ mlen (m.toNat - 1)) :
    Calls Ybaf.prog 9 #[.string s] w fun e w' => e = .returned (.tuple #[.int .i64 (dnum m dd), .bool true]) ∧ w' = w := by
  have hml := mlen_bd (m.toNat - 1)
  have hdu : dnum m dd = if m < 3 then 884395 + 587 + (153 * (m + 9) + 2) / 5 + dd else 884760 + 588 + (153 * (m - 3) + 2) / 5 + dd := rfl
  have HDU := hide hdu
  clear hdu
  by_cases hm3 : m < 3
  all_goals
    go_enter Ybaf.func9, Ybaf.ntmps9
    go_wp2_with (first
      | (go_at_call_of 11 (s.extract 0 4); refine (r0 _).mono ?_; rintro e w' ⟨rfl, rfl⟩)
      | (go_at_call_of 11 (s.extract 5 7); refine (r1 _).mono ?_; rintro e w' ⟨rfl, rfl⟩)
      | (go_at_call_of 11 (s.extract 8 10); refine (r2 _).mono ?_; rintro e w' ⟨rfl, rfl⟩)
      | (go_at_call 12; refine (monthDays_any m _ m1 m2).mono ?_; rintro e w' ⟨rfl, rfl⟩))
  all_goals first
    | (exfalso; omega)
    | (go_ret2; rw [HDU.out]; (first | rw [if_pos (by omega)] | rw [if_neg (by omega)]); exact ⟨ret2_int (by omega), rfl⟩)

/-- digits over a slice of a literal string. -/
theorem reads_two (s : ByteArray) (x y : UInt8) (hs : s.data.toList = [x, y]) (hx : 48 ≤ (x.toNat : Int) ∧ (x.toNat : Int) ≤ 57) (hy : 48 ≤ (y.toNat : Int) ∧ (y.toNat : Int) ≤ 57) :
    Reads s (((x.toNat : Int) - 48) * 10 + ((y.toNat : Int) - 48)) := fun w => by
  obtain ⟨⟨l⟩⟩ := s
  have hs : l = [x, y] := hs
  subst hs
  have h := digits_any ⟨⟨[x, y]⟩⟩ w (show 2 ≤ 4 by decide) (fun i h => by
    have h : i < 2 := h
    match i, h with
    | 0, _ => exact hx
    | 1, _ => exact hy)
  have e : numv [x, y] = ((x.toNat : Int) - 48) * 10 + ((y.toNat : Int) - 48) := by simp [numv]
  rw [← e]; exact h

theorem reads_2024 (s : ByteArray) (hs : s.data.toList = [50, 48, 50, 52]) : Reads s 2024 := fun w => by
  obtain ⟨⟨l⟩⟩ := s
  have hs : l = [50, 48, 50, 52] := hs
  subst hs
  exact digits_any ⟨⟨[50, 48, 50, 52]⟩⟩ w (by decide) (fun i h => by
    have h : i < 4 := h
    match i, h with
    | 0, _ => exact (by decide : 48 ≤ ((50 : UInt8).toNat : Int) ∧ ((50 : UInt8).toNat : Int) ≤ 57)
    | 1, _ => exact (by decide : 48 ≤ ((48 : UInt8).toNat : Int) ∧ ((48 : UInt8).toNat : Int) ≤ 57)
    | 2, _ => exact (by decide : 48 ≤ ((50 : UInt8).toNat : Int) ∧ ((50 : UInt8).toNat : Int) ≤ 57)
    | 3, _ => exact (by decide : 48 ≤ ((52 : UInt8).toNat : Int) ∧ ((52 : UInt8).toNat : Int) ≤ 57))

/-- calendar.number at the date of day n: its place in the year, behind a number that is one for all. -/
theorem dayNumber_date (n : Nat) (w : World) (hn : n ≤ 365) :
    Calls Ybaf.prog 9 #[.string (dateS n)] w fun e w' => e = .returned (.tuple #[.int .i64 (num0 + n), .bool true]) ∧ w' = w := by
  have hm := mon_le n
  have hd := dom_bd n hn
  have hl := mlen_bd (mon n)
  have hnum := dnum_day n hn
  have b1 : ∀ k : Nat, k ≤ 99 → 48 ≤ (((48 + k / 10).toUInt8.toNat : Nat) : Int) ∧ (((48 + k / 10).toUInt8.toNat : Nat) : Int) ≤ 57 ∧ 48 ≤ (((48 + k % 10).toUInt8.toNat : Nat) : Int) ∧ (((48 + k % 10).toUInt8.toNat : Nat) : Int) ≤ 57 ∧ ((((48 + k / 10).toUInt8.toNat : Nat) : Int) - 48) * 10 + ((((48 + k % 10).toUInt8.toNat : Nat) : Int) - 48) = k := by
    intro k hk
    have e1 : (48 + k / 10).toUInt8.toNat = 48 + k / 10 := by simp; omega
    have e2 : (48 + k % 10).toUInt8.toNat = 48 + k % 10 := by simp; omega
    rw [e1, e2]; omega
  obtain ⟨p1, p2, p3, p4, p5⟩ := b1 (mon n + 1) (by omega)
  obtain ⟨q1, q2, q3, q4, q5⟩ := b1 (dom n) (by omega)
  have r1 := reads_two ((dateS n).extract 5 7) (48 + (mon n + 1) / 10).toUInt8 (48 + (mon n + 1) % 10).toUInt8 rfl ⟨p1, p2⟩ ⟨p3, p4⟩
  have r2 := reads_two ((dateS n).extract 8 10) (48 + dom n / 10).toUInt8 (48 + dom n % 10).toUInt8 rfl ⟨q1, q2⟩ ⟨q3, q4⟩
  rw [p5] at r1
  rw [q5] at r2
  have h := dayNumber_any (dateS n) w rfl rfl rfl _ _ (reads_2024 _ rfl) r1 r2 (by omega) (by omega) (by omega) (by simpa using hd.2)
  rw [show ((mon n + 1 : Nat) : Int) = (mon n : Int) + 1 from by omega, hnum] at h
  exact h
end Go.Proofs.YbulkbhdgFmt
