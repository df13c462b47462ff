import Derived.Test.YbulkbhfkFmtGram
namespace Go.Proofs.YbulkbhfkFmt
open Go.RowKit

set_option maxHeartbeats 2000000 in
theorem model_any (w : World) (b c : Nat) (l : List UInt8) (hc : Lies w b l) (p : Int) (h0 : 0 ≤ p) (h1 : p ≤ 1024) (hl : l.length ≤ 1024) :
    Calls Ybaf.prog 7 #[.slice (some ⟨b, 0, none⟩) l.length c, .int .i64 p] w fun e w' => e = .returned (.tuple #[.int .i64 (gram l p).1, .bool (gram l p).2]) ∧ w' = w := by
  have HC := hide hc
  clear hc
  go_enter Ybaf.func7, Ybaf.ntmps7
  go_wp2_with (first
    | (go_at_call 12; refine (at_any _ b c l HC.out _ ?_ hl).mono ?_; (omega); rintro e w' ⟨rfl, rfl⟩)
    | (go_at_call 13; refine (dig_any _ _).mono ?_; rintro e w' ⟨rfl, rfl⟩)
    | (go_at_call 14; refine (skip_any _ b c l HC.out _ ?_ ?_ hl).mono ?_; (omega); (omega); rintro e w' ⟨rfl, hbd, rfl⟩))
  all_goals
    go_ret2
    refine ⟨ret2 ?_, rfl⟩
    clear HC
    first | (simp [gram, whole, frac, expo, *]; done) | (simp_all [gram, whole, frac, expo]; done)
end Go.Proofs.YbulkbhfkFmt
