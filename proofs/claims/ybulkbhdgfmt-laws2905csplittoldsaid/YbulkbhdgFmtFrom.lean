import Derived.Test.YbulkbhdgFmtDate
namespace Go.Proofs.YbulkbhdgFmt
open Go.RowKit

/-- What 'from' hands back: y from its first yield of the week on, in y's own memory. -/
def FromEnds (b len dn : Nat) (nums : Nat → Nat) (e : Ending) : Prop :=
  ∃ k a, IsFirst (fun j => 7 ≤ (dn : Int) - nums j) len k ∧ e = .returned (.slice a (len - k) (len - k)) ∧ (k < len → a = some ⟨b, k * 7, none⟩)

set_option maxHeartbeats 400000 in
theorem from_any (b len : Nat) (nums : Nat → Nat) (dn : Nat) (w : World) (hl : len ≤ 1024) (hdn : dn ≤ 365) (hn : ∀ j, j < len → nums j ≤ 365)
    (hc : ∀ j, j < len → w.cell? ⟨b, j * 7, none⟩ = some (.string (dateS (nums j)))) :
    Calls Ybaf.prog 6 #[.slice (some ⟨b, 0, none⟩) len len, .string (dateS dn)] w fun e w' => FromEnds b len dn nums e ∧ w' = w := by
  go_enter Ybaf.func6, Ybaf.ntmps6
  go_wp2
  go_loop [5] (fun i => ∃ k : Nat, k ≤ len ∧ i = .int .i64 k ∧ ∀ j, j < k → 7 ≤ (dn : Int) - nums j) (fun i => len - (intOf i).toNat)
  case atStart => exact ⟨0, by omega, rfl, fun j h => absurd h (Nat.not_lt_zero _)⟩
  case round =>
    obtain ⟨k, hk, rfl, hall⟩ := hrel
    have HA := hide hall
    have HC := hide hc
    have HN := hide hn
    clear hall hc hn
    by_cases hlt : k < len
    · have hck := HC.out k hlt
      have hnk := HN.out k hlt
      by_cases h7 : 7 ≤ (dn : Int) - nums k
      · go_wp2_with (go_at_call 7; refine (days_date _ _ _ hnk hdn).mono ?_; rintro e w' ⟨rfl, rfl⟩)
        go_round
        case rel => exact ⟨k + 1, by omega, by go_num, fun j hj => by
          rcases Nat.lt_succ_iff_lt_or_eq.1 hj with h | rfl
          · exact HA.out j h
          · exact h7⟩
        case measure => simp [intOf]; omega
      · go_wp2_with (go_at_call 7; refine (days_date _ _ _ hnk hdn).mono ?_; rintro e w' ⟨rfl, rfl⟩)
        go_ret
        exact ⟨⟨k, _, ⟨hk, HA.out, fun _ => by show ¬ (7 ≤ (dn : Int) - nums k); omega⟩, rfl, fun _ => rfl⟩, rfl⟩
    · go_wp2
      go_ret
      exact ⟨⟨k, _, ⟨hk, HA.out, fun h => absurd h hlt⟩, rfl, fun h => absurd h hlt⟩, rfl⟩
end Go.Proofs.YbulkbhdgFmt
