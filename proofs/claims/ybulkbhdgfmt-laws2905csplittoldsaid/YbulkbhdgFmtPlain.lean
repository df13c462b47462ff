/- THE PLAIN MATHEMATICS of seat b2905aF: days of 2024 as dates, their numbers; the first place at which a test fails. No Go here. -/
namespace Go.Proofs.YbulkbhdgFmt

/-- How many days of 2024 lie ahead of month m (0: January). -/
def cum : Nat → Nat
  | 0 => 0 | 1 => 31 | 2 => 60 | 3 => 91 | 4 => 121 | 5 => 152 | 6 => 182 | 7 => 213 | 8 => 244 | 9 => 274 | 10 => 305 | _ => 335
/-- The months' lengths. -/
def mlen : Nat → Int
  | 0 => 31 | 1 => 29 | 2 => 31 | 3 => 30 | 4 => 31 | 5 => 30 | 6 => 31 | 7 => 31 | 8 => 30 | 9 => 31 | 10 => 30 | _ => 31
/-- The month (from 0) of day n. -/
def mon (n : Nat) : Nat :=
  if n < 31 then 0 else if n < 60 then 1 else if n < 91 then 2 else if n < 121 then 3 else if n < 152 then 4 else if n < 182 then 5 else if n < 213 then 6 else if n < 244 then 7 else if n < 274 then 8 else if n < 305 then 9 else if n < 335 then 10 else 11
def dom (n : Nat) : Nat := n - cum (mon n) + 1

theorem mon_le (n : Nat) : mon n ≤ 11 := by unfold mon; repeat (first | omega | split)
theorem cum_mon_le (n : Nat) (h : n ≤ 365) : cum (mon n) ≤ n := by
  have : ∀ n, n < 366 → cum (mon n) ≤ n := by decide +kernel
  exact this n (by omega)
/-- The loop's way out: at m the rest of n is less than the month's length, or m is December. -/
theorem mon_eq (n m : Nat) (hn : n ≤ 365) (hm : m ≤ 11) (h0 : cum m ≤ n) (h : m = 11 ∨ (n : Int) - cum m < mlen m) : mon n = m := by
  have : ∀ n, n < 366 → ∀ m, m < 12 → cum m ≤ n → (m = 11 ∨ (n : Int) - cum m < mlen m) → mon n = m := by decide +kernel
  exact this n (by omega) m (by omega) h0 h
theorem cum_succ (m : Nat) (hm : m < 11) : (cum (m + 1) : Int) = cum m + mlen m := by
  have : m = 0 ∨ m = 1 ∨ m = 2 ∨ m = 3 ∨ m = 4 ∨ m = 5 ∨ m = 6 ∨ m = 7 ∨ m = 8 ∨ m = 9 ∨ m = 10 := by omega
  rcases this with rfl | rfl | rfl | rfl | rfl | rfl | rfl | rfl | rfl | rfl | rfl <;> rfl
theorem mlen_bd (m : Nat) : 29 ≤ mlen m ∧ mlen m ≤ 31 := by unfold mlen; split <;> omega
theorem cum_le (m : Nat) : cum m ≤ 335 := by unfold cum; split <;> omega
theorem dom_bd (n : Nat) (h : n ≤ 365) : 1 ≤ dom n ∧ (dom n : Int) ≤ mlen (mon n) := by
  have : ∀ n, n < 366 → 1 ≤ dom n ∧ (dom n : Int) ≤ mlen (mon n) := by decide +kernel
  exact this n (by omega)

/-- A date of 2024 as bytes: month mm (from 1), day d. -/
def dateL (mm d : Nat) : List UInt8 := [50, 48, 50, 52, 45, (48 + mm / 10).toUInt8, (48 + mm % 10).toUInt8, 45, (48 + d / 10).toUInt8, (48 + d % 10).toUInt8]
def dateS (n : Nat) : ByteArray := ⟨(dateL (mon n + 1) (dom n)).toArray⟩

/-- The number that calendar.dayNumber reckons for month mm, day d of 2024. -/
def dnum (mm d : Int) : Int := if mm < 3 then 884395 + 587 + (153 * (mm + 9) + 2) / 5 + d else 884760 + 588 + (153 * (mm - 3) + 2) / 5 + d
def num0 : Int := 884395 + 587 + 307
theorem dnum_day (n : Nat) (h : n ≤ 365) : dnum ((mon n : Int) + 1) (dom n) = num0 + n := by
  have : ∀ n : Nat, n < 366 → dnum ((mon n : Int) + 1) (dom n) = num0 + n := by decide +kernel
  exact this n (by omega)

/-- k is the first place below len at which p fails (or len). -/
def IsFirst (p : Nat → Prop) (len k : Nat) : Prop := k ≤ len ∧ (∀ j, j < k → p j) ∧ (k < len → ¬ p k)
theorem IsFirst.eq {p : Nat → Prop} {len k k' : Nat} (h : IsFirst p len k) (h' : IsFirst p len k') : k = k' := by
  rcases Nat.lt_trichotomy k k' with hl | he | hl
  · exact absurd (h'.2.1 k hl) (h.2.2 (by have := h'.1; omega))
  · exact he
  · exact absurd (h.2.1 k' hl) (h'.2.2 (by have := h.1; omega))
end Go.Proofs.YbulkbhdgFmt
