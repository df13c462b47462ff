/- WHERE THE LAW STARTS. -/
import Derived.Test.YbulkbhhaNode
namespace Go.Proofs.Ybulkbhha
open Go.RowKit
theorem info61 : (Yba.prog.info? 61).map (fun i => (i.zero, i.size, i.bytes)) = some (some (.pointer none), 1, 8) := by kernel_rfl
theorem make_qs (l n : Nat) (hl : l ≤ n) (hn : n ≤ 300) : ∃ C : List Value, C.length = n ∧ ∀ w : World, (Instr.makeSlice 66 (.int .i64 l) (.int .i64 n)).run Yba.prog w = .ok (.slice (some ⟨w.heap.size, 0, none⟩) l n) (w.alloc (.cells C.toArray 61)) := by
  obtain ⟨i, hi, hz, hs, hb⟩ := info_parts info61
  refine ⟨(madeCells (Value.cells (.pointer none)) (n * 1)).toList, by simp [size_madeCells], fun w => ?_⟩
  have := run_make (P := Yba.prog) w 66 61 i _ Yba.underlying66 hi hz .i64 .i64 l n (by omega) (by omega) (by rw [hb]; omega) (by omega)
  simpa [hs] using this

def sQ (bh : Bool) (rB oB S : Nat) (a3 : Int) (x : Nat → Bool) (i : Nat) : St where
  tq := if bh then ptr oB else ptr rB
  wt := .int .i64 a3
  i1 := .pointer none
  i2 := .pointer none
  ic := .int .i64 0
  hd := .pointer none
  tl := .pointer none
  rp := if bh then ptr oB else .pointer none
  rn := .pointer none
  op := .pointer none
  oq := if bh then ptr rB else .pointer none
  pv := fun j => if j = 0 then .pointer none else ptr (S + 3 * (j - 1) + 2)
  nx := fun j => if j + 1 < i then ptr (S + 3 * (j + 1) + 2) else .pointer none
  ip := fun _ => .pointer none
  iq := fun _ => .pointer none
  mp := fun j => .map (ents (ptr (S + 3 * j + 2)) (x j)) (clk (x j))


theorem lay_zero {tB rB oB gq S : Nat} {bh : Bool} {s : St} {X : World} {TA RA OA : Array Value} (hT : X.heap[tB]? = some (.cells TA 56)) (hR : X.heap[rB]? = some (.cells RA 65)) (hO : bh = true → X.heap[oB]? = some (.cells OA 65))
    (hS : S ≤ X.heap.size) (hb : ∀ b, tB ≤ b → b < S → b = tB ∨ b = rB ∨ (bh = true ∧ b = oB)) (fo : ∀ o, X.frozen? ⟨oB, o, none⟩ = false)
    (t7 : TA[7]? = some s.tq) (t15 : TA[15]? = some s.wt) (t89 : TA[89]? = some s.i1) (t90 : TA[90]? = some s.i2) (t91 : TA[91]? = some s.ic)
    (r1 : RA[1]? = some (.string ⟨#[114]⟩)) (r8 : RA[8]? = some (.pointer none)) (r10 : RA[10]? = some s.hd) (r11 : RA[11]? = some s.tl) (r13 : RA[13]? = some s.rp) (r14 : RA[14]? = some s.rn)
    (o13 : bh = true → OA[13]? = some s.op) (o14 : bh = true → OA[14]? = some s.oq) : Lay tB rB oB gq S 0 bh s X := by
  have cT : ∀ o, X.cell? ⟨tB, o, none⟩ = TA[o]? := fun o => by simp [World.cell?, hT]
  have cR : ∀ o, X.cell? ⟨rB, o, none⟩ = RA[o]? := fun o => by simp [World.cell?, hR]
  have cO : bh = true → ∀ o, X.cell? ⟨oB, o, none⟩ = OA[o]? := fun e o => by simp [World.cell?, hO e]
  have z : ∀ {p : Nat → Prop}, ∀ j, j < 0 → p j := fun j hj => absurd hj (Nat.not_lt_zero _)
  refine ⟨by omega, (cT _).trans t7, (cT _).trans t15, (cT _).trans t89, (cT _).trans t90, (cT _).trans t91, (cR _).trans r1, (cR _).trans r8, (cR _).trans r10, (cR _).trans r11, (cR _).trans r13, (cR _).trans r14,
    fun e => (cO e _).trans (o13 e), fun e => (cO e _).trans (o14 e), z, z, z, z, z, z, z, z, z, z, z, z, fun b o h1 h2 => ?_, fo⟩
  rcases hb b h1 (by omega) with rfl | rfl | ⟨e, rfl⟩
  · simp [World.frozen?, hT]
  · simp [World.frozen?, hR]
  · exact fo o

def tabA (Z : Array Value) (B q : Nat) (a3 : Int) : Array Value := ((Z.setIfInBounds 8 (.map (some B))).setIfInBounds 15 (.int .i64 a3)).setIfInBounds 7 (ptr q)
def resA (h : Int) (nm : ByteArray) (p q : Value) : Array Value := #[.int .u64 h, .string nm, .int .i64 0, .int .i64 0, .int .i64 0, .int .i64 0, .int .i64 0, .int .i64 0, .pointer none, .pointer none, .pointer none, .pointer none, .map none, p, q]

theorem tabA_far (Z : Array Value) (B q : Nat) (a3 : Int) (n : Nat) (h7 : 7 ≠ n) (h8 : 8 ≠ n) (h15 : 15 ≠ n) : (tabA Z B q a3)[n]? = Z[n]? := by
  rw [tabA, Array.getElem?_setIfInBounds_ne h7, Array.getElem?_setIfInBounds_ne h15, Array.getElem?_setIfInBounds_ne h8]
theorem tabA_7 (Z : Array Value) (B q : Nat) (a3 : Int) (hs : Z.size = 92) : (tabA Z B q a3)[7]? = some (ptr q) := by
  rw [tabA, Array.getElem?_setIfInBounds_self_of_lt (by simp [hs])]
theorem tabA_15 (Z : Array Value) (B q : Nat) (a3 : Int) (hs : Z.size = 92) : (tabA Z B q a3)[15]? = some (.int .i64 a3) := by
  rw [tabA, Array.getElem?_setIfInBounds_ne (by decide), Array.getElem?_setIfInBounds_self_of_lt (by simp [hs])]

theorem start_f (w : World) (Z : Array Value) (a3 : Int) (x : Nat → Bool) (hs : Z.size = 92) (z89 : Z[89]? = some (.pointer none)) (z90 : Z[90]? = some (.pointer none)) (z91 : Z[91]? = some (.int .i64 0)) :
    Lay (w.heap.size + 1) (w.heap.size + 1 + 1) w.heap.size (w.heap.size + 1 + 1 + 1) (w.heap.size + 1 + 1 + 1) 0 false (sQ false (w.heap.size + 1 + 1) w.heap.size (w.heap.size + 1 + 1 + 1 + 1) a3 x 0)
      (((w.alloc (.map #[] 0)).alloc (.cells (tabA Z w.heap.size (w.heap.size + 1 + 1) a3) 56)).alloc (.cells (resA 1 ⟨#[114]⟩ (.pointer none) (.pointer none)) 65)) := by
  have z1 : (w.alloc (.map #[] 0)).heap.size = w.heap.size + 1 := by simp
  have z2 : ((w.alloc (.map #[] 0)).alloc (.cells (tabA Z w.heap.size (w.heap.size + 1 + 1) a3) 56)).heap.size = w.heap.size + 1 + 1 := by simp
  have h0 : (((w.alloc (.map #[] 0)).alloc (.cells (tabA Z w.heap.size (w.heap.size + 1 + 1) a3) 56)).alloc (.cells (resA 1 ⟨#[114]⟩ (.pointer none) (.pointer none)) 65)).heap[w.heap.size]? = some (.map #[] 0) := by
    rw [Below.heap_alloc _ _ _ (by omega), Below.heap_alloc _ _ _ (by omega)]; exact heap_alloc_new _ _
  refine lay_zero (OA := #[]) (TA := tabA Z w.heap.size (w.heap.size + 1 + 1) a3) (RA := resA 1 ⟨#[114]⟩ (.pointer none) (.pointer none)) ?_ ?_ (fun e => by cases e) (by simp) (fun b h1 h2 => by omega) (fun o => by simp only [World.frozen?, h0]) (tabA_7 _ _ _ _ hs) (tabA_15 _ _ _ _ hs) ((tabA_far _ _ _ _ _ (by decide) (by decide) (by decide)).trans z89) ((tabA_far _ _ _ _ _ (by decide) (by decide) (by decide)).trans z90) ((tabA_far _ _ _ _ _ (by decide) (by decide) (by decide)).trans z91) rfl rfl rfl rfl rfl rfl (fun e => by cases e) (fun e => by cases e)
  · rw [Below.heap_alloc _ _ _ (by omega)]
    have := heap_alloc_new (w.alloc (.map #[] 0)) (.cells (tabA Z w.heap.size (w.heap.size + 1 + 1) a3) 56)
    rw [z1] at this; exact this
  · have := heap_alloc_new ((w.alloc (.map #[] 0)).alloc (.cells (tabA Z w.heap.size (w.heap.size + 1 + 1) a3) 56)) (.cells (resA 1 ⟨#[114]⟩ (.pointer none) (.pointer none)) 65)
    rw [z2] at this; exact this

theorem start_t (w : World) (Z : Array Value) (a3 : Int) (x : Nat → Bool) (hs : Z.size = 92) (z89 : Z[89]? = some (.pointer none)) (z90 : Z[90]? = some (.pointer none)) (z91 : Z[91]? = some (.int .i64 0)) :
    Lay (w.heap.size + 1) (w.heap.size + 1 + 1) (w.heap.size + 1 + 1 + 1) (w.heap.size + 1 + 1 + 1 + 1) (w.heap.size + 1 + 1 + 1 + 1) 0 true (sQ true (w.heap.size + 1 + 1) (w.heap.size + 1 + 1 + 1) (w.heap.size + 1 + 1 + 1 + 1 + 1) a3 x 0)
      ((((w.alloc (.map #[] 0)).alloc (.cells (tabA Z w.heap.size (w.heap.size + 1 + 1 + 1) a3) 56)).alloc (.cells (resA 1 ⟨#[114]⟩ (ptr (w.heap.size + 1 + 1 + 1)) (.pointer none)) 65)).alloc (.cells (resA 2 ⟨#[111]⟩ (.pointer none) (ptr (w.heap.size + 1 + 1))) 65)) := by
  have z1 : (w.alloc (.map #[] 0)).heap.size = w.heap.size + 1 := by simp
  have z2 : ((w.alloc (.map #[] 0)).alloc (.cells (tabA Z w.heap.size (w.heap.size + 1 + 1 + 1) a3) 56)).heap.size = w.heap.size + 1 + 1 := by simp
  have z3 : (((w.alloc (.map #[] 0)).alloc (.cells (tabA Z w.heap.size (w.heap.size + 1 + 1 + 1) a3) 56)).alloc (.cells (resA 1 ⟨#[114]⟩ (ptr (w.heap.size + 1 + 1 + 1)) (.pointer none)) 65)).heap.size = w.heap.size + 1 + 1 + 1 := by simp
  have h3 := heap_alloc_new (((w.alloc (.map #[] 0)).alloc (.cells (tabA Z w.heap.size (w.heap.size + 1 + 1 + 1) a3) 56)).alloc (.cells (resA 1 ⟨#[114]⟩ (ptr (w.heap.size + 1 + 1 + 1)) (.pointer none)) 65)) (.cells (resA 2 ⟨#[111]⟩ (.pointer none) (ptr (w.heap.size + 1 + 1))) 65)
  rw [z3] at h3
  refine lay_zero (OA := resA 2 ⟨#[111]⟩ (.pointer none) (ptr (w.heap.size + 1 + 1))) (TA := tabA Z w.heap.size (w.heap.size + 1 + 1 + 1) a3) (RA := resA 1 ⟨#[114]⟩ (ptr (w.heap.size + 1 + 1 + 1)) (.pointer none)) ?_ ?_ (fun _ => h3) (by simp) (fun b h1 h2 => by simp only [true_and]; omega) (fun o => by simp only [World.frozen?, h3]; simp) (tabA_7 _ _ _ _ hs) (tabA_15 _ _ _ _ hs) ((tabA_far _ _ _ _ _ (by decide) (by decide) (by decide)).trans z89) ((tabA_far _ _ _ _ _ (by decide) (by decide) (by decide)).trans z90) ((tabA_far _ _ _ _ _ (by decide) (by decide) (by decide)).trans z91) rfl rfl rfl rfl rfl rfl (fun _ => rfl) (fun _ => rfl)
  · rw [Below.heap_alloc _ _ _ (by omega), Below.heap_alloc _ _ _ (by omega)]
    have := heap_alloc_new (w.alloc (.map #[] 0)) (.cells (tabA Z w.heap.size (w.heap.size + 1 + 1 + 1) a3) 56)
    rw [z1] at this; exact this
  · rw [Below.heap_alloc _ _ _ (by omega)]
    have := heap_alloc_new ((w.alloc (.map #[] 0)).alloc (.cells (tabA Z w.heap.size (w.heap.size + 1 + 1 + 1) a3) 56)) (.cells (resA 1 ⟨#[114]⟩ (ptr (w.heap.size + 1 + 1 + 1)) (.pointer none)) 65)
    rw [z2] at this; exact this

/-- The slice made. -/
theorem lay_made {tB rB oB gq : Nat} {bh : Bool} {s : St} {X : World} (h : Lay tB rB oB gq gq 0 bh s X) (hb : tB < gq) (ho : oB < gq) (hr : rB < gq) (hg : X.heap.size = gq) (C : List Value) : Lay tB rB oB gq (gq + 1) 0 bh s (X.alloc (.cells C.toArray 61)) := by
  have k : ∀ b o, b < gq → (X.alloc (.cells C.toArray 61)).cell? ⟨b, o, none⟩ = X.cell? ⟨b, o, none⟩ := fun b o hb => World.cell?_alloc_lt _ _ _ (by show b < _; omega)
  have z : ∀ {p : Nat → Prop}, ∀ j, j < 0 → p j := fun j hj => absurd hj (Nat.not_lt_zero _)
  have kf : ∀ b o, b < gq → (X.alloc (.cells C.toArray 61)).frozen? ⟨b, o, none⟩ = X.frozen? ⟨b, o, none⟩ := fun b o hb => World.frozen?_of_block (Below.heap_alloc X _ b (by omega))
  refine ⟨by simp [hg], (k _ _ (by omega)).trans h.t7, (k _ _ (by omega)).trans h.t15, (k _ _ (by omega)).trans h.t89, (k _ _ (by omega)).trans h.t90, (k _ _ (by omega)).trans h.t91,
    (k _ _ (by omega)).trans h.r1, (k _ _ (by omega)).trans h.r8, (k _ _ (by omega)).trans h.r10, (k _ _ (by omega)).trans h.r11, (k _ _ (by omega)).trans h.r13, (k _ _ (by omega)).trans h.r14,
    fun e => (k _ _ (by omega)).trans (h.o13 e), fun e => (k _ _ (by omega)).trans (h.o14 e), z, z, z, z, z, z, z, z, z, z, z, z, fun b o h1 h2 => ?_, fun o => (kf _ _ ho).trans (h.fo o)⟩
  rcases Nat.lt_or_ge b gq with h3 | h3
  · rw [kf b o h3]; exact h.fr b o h1 (by omega)
  · obtain rfl : b = X.heap.size := by omega
    have := heap_alloc_new X (.cells C.toArray 61)
    simp only [World.frozen?, this]
    simp
end Go.Proofs.Ybulkbhha
