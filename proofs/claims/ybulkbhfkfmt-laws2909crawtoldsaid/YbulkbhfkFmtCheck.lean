import Derived.Test.YbulkbhfkFmtNumber
import Derived.Stop.IfaceNil
namespace Go.Proofs.YbulkbhfkFmt
open Go.RowKit Go.Extern.Stop Go.Stop Go.Extern

theorem St.start (w : World) (bd c : Nat) (l : List UInt8) (p : Int) (hL : Lies w bd l) (hz : bd < w.heap.size) (h0 : 0 ≤ p) (h1 : p ≤ l.length) :
    St w w.heap.size w.heap.size bd c l (w.alloc (.cells #[.slice (some ⟨bd, 0, none⟩) l.length c, .int .i64 p] 28)) p := by
  have hh : (w.alloc (.cells #[.slice (some ⟨bd, 0, none⟩) l.length c, .int .i64 p] 28)).heap[w.heap.size]? = some (.cells #[.slice (some ⟨bd, 0, none⟩) l.length c, .int .i64 p] 28) := heap_alloc_new w _
  have hb : Below w.heap.size w (w.alloc (.cells #[.slice (some ⟨bd, 0, none⟩) l.length c, .int .i64 p] 28)) := (Below.refl _ _).alloc (Nat.le_refl _) _
  exact ⟨hb, Nat.le_refl _, by simp only [World.cell?, hh]; rfl, by simp only [World.cell?, hh]; rfl, by simp only [World.frozen?, hh]; rfl, fun j hj => (hb.cell (p := ⟨bd, j, none⟩) hz).trans (hL j hj), by omega, by simp, by simp; omega, h0, h1⟩

set_option maxHeartbeats 400000 in
theorem check_any (F : Interp) (w : World) (hF : F.answers w.tape) (bd c : Nat) (l : List UInt8) (p : Int) (hL : Lies w bd l) (hz : bd < w.heap.size) (h0 : 0 ≤ p) (h1 : p ≤ l.length) (hl : l.length ≤ 1024) :
    Calls Ybaf.prog 5 #[.slice (some ⟨bd, 0, none⟩) l.length c, .int .i64 p] w fun e w' => e = .returned (.bool true) ∧ Below w.heap.size w w' := by
  have H := hide (St.start w bd c l p hL hz h0 h1)
  have HF := hide hF
  clear hL hF
  go_enter Ybaf.func5, Ybaf.ntmps5
  go_wp2_with fail
  refine (number_any F HF.out H.out hl).mono ?_
  intro e w1 hend
  obtain ⟨hn, hst⟩ := hend
  have c0 := hst.c0
  have c1 := hst.c1
  have HS := hide hst
  have HL := hide hst.lies
  clear hst H
  cases hok : (gram l p).2
  · rw [hok] at hn
    obtain ⟨t, v, rfl⟩ := hn
    go_wp2_with fail
    refine (model_any w1 bd c l HL.out p h0 (by omega) hl).mono ?_
    rintro e w2 ⟨rfl, hw⟩
    subst hw
    go_wp2
    go_ret
    exact ⟨rfl, HS.out.below⟩
  · rw [hok] at hn
    have hn : e = .returned .nilIface := hn
    subst hn
    go_wp2_with fail
    refine (model_any w1 bd c l HL.out p h0 (by omega) hl).mono ?_
    rintro e w2 ⟨rfl, hw⟩
    subst hw
    go_wp2
    go_ret
    exact ⟨rfl, HS.out.below⟩
end Go.Proofs.YbulkbhfkFmt
