import Derived.Test.YbulkbhfkFmtModel
import Derived.Test.YbulkbhfkFmtStop
namespace Go.Proofs.YbulkbhfkFmt
open Go.RowKit Go.Extern.Stop Go.Stop Go.Extern
attribute [local go_sem] call16 guard_ok fmtA fmtAr fmtB fmtBr op9 op3 op5 ptr42 elem42

def fA : ByteArray := ⟨#[117, 110, 101, 120, 112, 101, 99, 116, 101, 100, 32, 101, 110, 100, 32, 111, 102, 32, 74, 83, 79, 78, 32, 37, 115]⟩
def fB : ByteArray := ⟨#[105, 110, 118, 97, 108, 105, 100, 32, 99, 104, 97, 114, 97, 99, 116, 101, 114, 32, 37, 113, 32, 97, 116, 32, 111, 102, 102, 115, 101, 116, 32, 37, 100, 44, 32, 37, 115]⟩

set_option maxHeartbeats 1000000 in
theorem errorfA (F : Interp) (g : Nat) (s : ByteArray) (w : World) (hF : F.answers w.tape) (hc : w.cell? ⟨g, 0, none⟩ = some (.iface 9 (.string s))) :
    Calls Ybaf.prog 15 #[.string ⟨#[117, 110, 101, 120, 112, 101, 99, 116, 101, 100, 32, 101, 110, 100, 32, 111, 102, 32, 74, 83, 79, 78, 32, 37, 115]⟩, .slice (some ⟨g, 0, none⟩) 1 1] w fun e w' => (∃ t v, e = .returned (.iface t v)) ∧ Below w.heap.size w w' := by
  have hF' := answers_open hF
  go_enter Ybaf.func15, Ybaf.ntmps15
  go_wp2
  go_ret
  exact ⟨⟨_, _, rfl⟩, ((Below.refl _ _).alloc (Nat.le_refl _) _).drew⟩

set_option maxHeartbeats 1000000 in
theorem errorfB (F : Interp) (g : Nat) (x y : Int) (s : ByteArray) (w : World) (hF : F.answers w.tape) (hc0 : w.cell? ⟨g, 0, none⟩ = some (.iface 5 (.int .u8 x))) (hc1 : w.cell? ⟨g, 1, none⟩ = some (.iface 3 (.int .i64 y))) (hc2 : w.cell? ⟨g, 2, none⟩ = some (.iface 9 (.string s))) :
    Calls Ybaf.prog 15 #[.string ⟨#[105, 110, 118, 97, 108, 105, 100, 32, 99, 104, 97, 114, 97, 99, 116, 101, 114, 32, 37, 113, 32, 97, 116, 32, 111, 102, 102, 115, 101, 116, 32, 37, 100, 44, 32, 37, 115]⟩, .slice (some ⟨g, 0, none⟩) 3 3] w fun e w' => (∃ t v, e = .returned (.iface t v)) ∧ Below w.heap.size w w' := by
  have hF' := answers_open hF
  go_enter Ybaf.func15, Ybaf.ntmps15
  go_wp2
  go_ret
  exact ⟨⟨_, _, rfl⟩, ((Below.refl _ _).alloc (Nat.le_refl _) _).drew⟩

/-! ### The checker -/
structure St (w0 : World) (B bc bd c : Nat) (l : List UInt8) (w : World) (pos : Int) : Prop where
  below : Below B w0 w
  hB : B ≤ bc
  c0 : w.cell? ⟨bc, 0, none⟩ = some (.slice (some ⟨bd, 0, none⟩) l.length c)
  c1 : w.cell? ⟨bc, 1, none⟩ = some (.int .i64 pos)
  f1 : w.frozen? ⟨bc, 1, none⟩ = false
  lies : Lies w bd l
  ne : bd ≠ bc
  zc : bc < w.heap.size
  zd : bd < w.heap.size
  ge : 0 ≤ pos
  le : pos ≤ l.length
section
variable {w0 : World} {B bc bd c : Nat} {l : List UInt8} {w : World} {pos : Int}
theorem St.later (h : St w0 B bc bd c l w pos) {w2 : World} (hb : Below w.heap.size w w2) : St w0 B bc bd c l w2 pos :=
  ⟨h.below.trans (hb.mono (Nat.le_trans h.hB (Nat.le_of_lt h.zc))), h.hB, (hb.cell (p := ⟨bc, 0, none⟩) h.zc).trans h.c0, (hb.cell (p := ⟨bc, 1, none⟩) h.zc).trans h.c1, (hb.frozen (p := ⟨bc, 1, none⟩) h.zc).trans h.f1,
   fun j hj => (hb.cell (p := ⟨bd, j, none⟩) h.zd).trans (h.lies j hj), h.ne, Nat.lt_of_lt_of_le h.zc hb.size, Nat.lt_of_lt_of_le h.zd hb.size, h.ge, h.le⟩
theorem St.drew (h : St w0 B bc bd c l w pos) : St w0 B bc bd c l w.drew pos := h.later (Below.refl _ _).drew
theorem St.inc (h : St w0 B bc bd c l w pos) (hlt : pos < l.length) : St w0 B bc bd c l (w.setCell ⟨bc, 1, none⟩ (.int .i64 (pos + 1))) (pos + 1) :=
  ⟨h.below.setCell h.hB _, h.hB, by rw [World.cell?_setCell_other _ _ _ _ (by simp)]; exact h.c0, World.cell?_setCell_same _ _ _ h.c1, by rw [World.frozen?_setCell]; exact h.f1,
   fun j hj => by rw [World.cell?_setCell_other _ _ _ _ (fun e => h.ne (by injection e with e1 _; exact e1.symm))]; exact h.lies j hj, h.ne, by simpa [World.setCell] using h.zc, by simpa [World.setCell] using h.zd, by have := h.ge; omega, by omega⟩
theorem St.tape (h : St w0 B bc bd c l w pos) : w.tape = w0.tape := h.below.tape

set_option maxHeartbeats 400000 in
theorem peek_any (h : St w0 B bc bd c l w pos) (hl : l.length ≤ 1024) :
    Calls Ybaf.prog 8 #[.pointer (some ⟨bc, 0, none⟩)] w fun e w' => e = .returned (.int .u8 (byteAt l pos)) ∧ St w0 B bc bd c l w' pos := by
  have c0 := h.c0
  have c1 := h.c1
  have ge := h.ge
  have le := h.le
  have H := hide h
  clear h
  by_cases hlt : pos < l.length
  · have hx : pos.toNat < l.length := by omega
    have e : byteAt l pos = (l[pos.toNat].toNat : Int) := by unfold byteAt; rw [dif_pos hx]
    have E := hide e
    clear e
    have hcell := H.out.lies pos.toNat hx
    have hne : (pos == (l.length : Int)) = false := beq_eq_false_iff_ne.2 (by omega)
    go_enter Ybaf.func8, Ybaf.ntmps8
    go_wp2_with fail
    go_region_held3 (fun w' => w'.cell? ⟨bc, 0, none⟩ = some (.slice (some ⟨bd, 0, none⟩) l.length c) ∧ w'.cell? ⟨bc, 1, none⟩ = some (.int .i64 pos) ∧ w'.cell? ⟨bd, pos.toNat, none⟩ = some (.int .u8 (l[pos.toNat].toNat : Int))) (go_keep) (fail)
    go_wp2_with fail
    go_region_held3 (fun w' => w'.cell? ⟨bc, 0, none⟩ = some (.slice (some ⟨bd, 0, none⟩) l.length c) ∧ w'.cell? ⟨bc, 1, none⟩ = some (.int .i64 pos) ∧ w'.cell? ⟨bd, pos.toNat, none⟩ = some (.int .u8 (l[pos.toNat].toNat : Int))) (go_keep) (fail)
    go_wp2_with fail
    go_ret
    exact ⟨ret_int E.out.symm, H.out.drew.drew⟩
  · have e : byteAt l pos = 0 := by unfold byteAt; rw [dif_neg (by omega)]
    have E := hide e
    clear e
    have hne : (pos == (l.length : Int)) = true := beq_iff_eq.2 (by omega)
    go_enter Ybaf.func8, Ybaf.ntmps8
    go_wp2_with fail
    go_region_held3 (fun w' => w'.cell? ⟨bc, 0, none⟩ = some (.slice (some ⟨bd, 0, none⟩) l.length c) ∧ w'.cell? ⟨bc, 1, none⟩ = some (.int .i64 pos)) (go_keep) (fail)
    go_wp2_with fail
    go_ret
    exact ⟨ret_int E.out.symm, H.out.drew⟩
end
end Go.Proofs.YbulkbhfkFmt
