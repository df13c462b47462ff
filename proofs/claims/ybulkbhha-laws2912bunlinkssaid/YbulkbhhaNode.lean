/- HOW A NODE IS BUILT. -/
import Derived.Test.YbulkbhhaDeq
namespace Go.Proofs.Ybulkbhha
open Go.RowKit
theorem zero_of {t : TypeId} {z : Value} {n b : Nat} (h : (Yba.prog.info? t).map (fun i => (i.zero, i.size, i.bytes)) = some (some z, n, b)) (w : World) : (zeroValue t).run Yba.prog w = .ok z w := by
  obtain ⟨i, hi, hz, -, -⟩ := info_parts h
  simp [zeroValue, hi, hz, typeInfo]
theorem zero65 : ∀ w : World, (zeroValue 65).run Yba.prog w = .ok (.agg #[.int .u64 0, .string ⟨#[]⟩, .int .i64 0, .int .i64 0, .int .i64 0, .int .i64 0, .int .i64 0, .int .i64 0, .pointer none, .pointer none, .pointer none, .pointer none, .map none, .pointer none, .pointer none]) w := zero_of (n := 15) (b := 128) (by kernel_rfl)
theorem zero75 : ∀ w : World, (zeroValue 75).run Yba.prog w = .ok (.agg #[.int .u64 0, .string ⟨#[]⟩, .pointer none, .pointer none, .map none, .slice none 0 0, .int .i64 0, .int .u64 0, .int .u64 0, .pointer none, .pointer none, .pointer none]) w := zero_of (n := 12) (b := 120) (by kernel_rfl)
theorem zero88 : ∀ w : World, (zeroValue 88).run Yba.prog w = .ok (.agg #[.int .u64 0, .pointer none, .pointer none, .int .u8 0, .bool false, .pointer none, .bool false, .int .u64 0, .string ⟨#[]⟩, .string ⟨#[]⟩, .int .u8 0, .pointer none, .bool false, .int .u64 0, .bool false, .int .u64 0, .int .i64 0, .pointer none, .chan none, .nilIface, .pointer none, .pointer none, .pointer none, .int .u64 0, .int .u64 0, .pointer none]) w := zero_of (n := 26) (b := 224) (by kernel_rfl)
noncomputable def tabZ : Array Value := match (Yba.prog.info? 56).bind (fun i => i.zero) with
  | some (.agg Z) => Z
  | _ => #[]
theorem zero56 : ∃ Z : Array Value, (∀ w : World, (zeroValue 56).run Yba.prog w = .ok (.agg Z) w) ∧ Z.size = 92 ∧ Z[7]? = some (.pointer none) ∧ Z[89]? = some (.pointer none) ∧ Z[90]? = some (.pointer none) ∧ Z[91]? = some (.int .i64 0) :=
  ⟨tabZ, zero_of (n := 92) (b := 872) (by kernel_rfl), by kernel_rfl, by kernel_rfl, by kernel_rfl, by kernel_rfl, by kernel_rfl⟩

def ownA (mb : Nat) : Array Value := #[.int .u64 0, .string ⟨#[]⟩, .pointer none, .pointer none, .map (some mb), .slice none 0 0, .int .i64 0, .int .u64 0, .int .u64 0, .pointer none, .pointer none, .pointer none]
def reqA (id : Value) (ob rb : Nat) : Array Value := #[id, ptr ob, ptr rb, .int .u8 0, .bool false, .pointer none, .bool false, .int .u64 0, .string ⟨#[]⟩, .string ⟨#[]⟩, .int .u8 0, .pointer none, .bool false, .int .u64 0, .bool false, .int .u64 0, .int .i64 0, .pointer none, .chan none, .nilIface, .pointer none, .pointer none, .pointer none, .int .u64 0, .int .u64 0, .pointer none]

/-- The newest node, not yet in the slice. -/
structure Node (rB S i : Nat) (mo : Obj) (pv : Value) (X : World) : Prop where
  size : X.heap.size = S + 3 * i + 3
  mp : X.heap[S + 3 * i]? = some mo
  n1 : X.cell? ⟨S + 3 * i + 2, 1, none⟩ = some (ptr (S + 3 * i + 1))
  n2 : X.cell? ⟨S + 3 * i + 2, 2, none⟩ = some (ptr rB)
  n5 : X.cell? ⟨S + 3 * i + 2, 5, none⟩ = some (.pointer none)
  n20 : X.cell? ⟨S + 3 * i + 2, 20, none⟩ = some pv
  n21 : X.cell? ⟨S + 3 * i + 2, 21, none⟩ = some (.pointer none)
  w2 : X.cell? ⟨S + 3 * i + 1, 2, none⟩ = some (.pointer none)
  w3 : X.cell? ⟨S + 3 * i + 1, 3, none⟩ = some (.pointer none)
  w4 : X.cell? ⟨S + 3 * i + 1, 4, none⟩ = some (.map (some (S + 3 * i)))
  w10 : X.cell? ⟨S + 3 * i + 1, 10, none⟩ = some (.pointer none)
  w11 : X.cell? ⟨S + 3 * i + 1, 11, none⟩ = some (.pointer none)
  fr : ∀ b o, S + 3 * i ≤ b → b < S + 3 * i + 3 → X.frozen? ⟨b, o, none⟩ = false

variable {B tB rB oB gq S i : Nat} {bh : Bool} {s : St} {W X : World} {mo : Obj} {pv : Value}

theorem node_new (W : World) (rB S i : Nat) (id : Value) (hs : W.heap.size = S + 3 * i) :
    Node rB S i (.map #[] 0) (.pointer none) (((W.alloc (.map #[] 0)).alloc (.cells (ownA (S + 3 * i)) 75)).alloc (.cells (reqA id (S + 3 * i + 1) rB) 88)) := by
  have z1 : (W.alloc (.map #[] 0)).heap.size = S + 3 * i + 1 := by simp [hs]
  have z2 : ((W.alloc (.map #[] 0)).alloc (.cells (ownA (S + 3 * i)) 75)).heap.size = S + 3 * i + 2 := by simp [hs]
  have h0 : (((W.alloc (.map #[] 0)).alloc (.cells (ownA (S + 3 * i)) 75)).alloc (.cells (reqA id (S + 3 * i + 1) rB) 88)).heap[S + 3 * i]? = some (.map #[] 0) := by
    rw [Below.heap_alloc _ _ _ (by omega), Below.heap_alloc _ _ _ (by omega), ← hs]; exact heap_alloc_new _ _
  have h1 : (((W.alloc (.map #[] 0)).alloc (.cells (ownA (S + 3 * i)) 75)).alloc (.cells (reqA id (S + 3 * i + 1) rB) 88)).heap[S + 3 * i + 1]? = some (.cells (ownA (S + 3 * i)) 75) := by
    rw [Below.heap_alloc _ _ _ (by omega)]
    have := heap_alloc_new (W.alloc (.map #[] 0)) (.cells (ownA (S + 3 * i)) 75)
    rw [z1] at this; exact this
  have h2 : (((W.alloc (.map #[] 0)).alloc (.cells (ownA (S + 3 * i)) 75)).alloc (.cells (reqA id (S + 3 * i + 1) rB) 88)).heap[S + 3 * i + 2]? = some (.cells (reqA id (S + 3 * i + 1) rB) 88) := by
    have := heap_alloc_new ((W.alloc (.map #[] 0)).alloc (.cells (ownA (S + 3 * i)) 75)) (.cells (reqA id (S + 3 * i + 1) rB) 88)
    rw [z2] at this; exact this
  generalize hX : (((W.alloc (.map #[] 0)).alloc (.cells (ownA (S + 3 * i)) 75)).alloc (.cells (reqA id (S + 3 * i + 1) rB) 88)) = X at h0 h1 h2 ⊢
  have c1 : ∀ o, X.cell? ⟨S + 3 * i + 1, o, none⟩ = (ownA (S + 3 * i))[o]? := fun o => by simp [World.cell?, h1]
  have c2 : ∀ o, X.cell? ⟨S + 3 * i + 2, o, none⟩ = (reqA id (S + 3 * i + 1) rB)[o]? := fun o => by simp [World.cell?, h2]
  refine ⟨by rw [← hX]; simp [hs], h0, by rw [c2]; rfl, by rw [c2]; rfl, by rw [c2]; rfl, by rw [c2]; rfl, by rw [c2]; rfl, by rw [c1]; rfl, by rw [c1]; rfl, by rw [c1]; rfl, by rw [c1]; rfl, by rw [c1]; rfl, fun b o hb1 hb2 => ?_⟩
  have : b = S + 3 * i ∨ b = S + 3 * i + 1 ∨ b = S + 3 * i + 2 := by omega
  rcases this with rfl | rfl | rfl
  · simp [World.frozen?, h0]
  · simp [World.frozen?, h1]
  · simp [World.frozen?, h2]

/-- A map of the newest node turned. -/
theorem Node.setM (h : Node rB S i mo pv X) (es : Array MapEntry) (c : Nat) : Node rB S i (.map es c) pv { X with heap := X.heap.setIfInBounds (S + 3 * i) (.map es c) } := by
  have hz := h.size
  have hh : ∀ b, b ≠ S + 3 * i → ({ X with heap := X.heap.setIfInBounds (S + 3 * i) (.map es c) } : World).heap[b]? = X.heap[b]? := fun b hb => Array.getElem?_setIfInBounds_ne hb.symm
  have h0 : ({ X with heap := X.heap.setIfInBounds (S + 3 * i) (.map es c) } : World).heap[S + 3 * i]? = some (.map es c) := Array.getElem?_setIfInBounds_self_of_lt (by omega)
  have k : ∀ b o', b ≠ S + 3 * i → ({ X with heap := X.heap.setIfInBounds (S + 3 * i) (.map es c) } : World).cell? ⟨b, o', none⟩ = X.cell? ⟨b, o', none⟩ := fun b o' hb => World.cell?_of_block (w := X) (hh b hb)
  refine ⟨by simpa using h.size, h0, (k _ _ (by omega)).trans h.n1, (k _ _ (by omega)).trans h.n2, (k _ _ (by omega)).trans h.n5, (k _ _ (by omega)).trans h.n20, (k _ _ (by omega)).trans h.n21,
    (k _ _ (by omega)).trans h.w2, (k _ _ (by omega)).trans h.w3, (k _ _ (by omega)).trans h.w4, (k _ _ (by omega)).trans h.w10, (k _ _ (by omega)).trans h.w11, fun b o hb1 hb2 => ?_⟩
  by_cases e : b = S + 3 * i
  · subst e
    show World.frozen? _ _ = _
    simp only [World.frozen?, h0]
  · exact (World.frozen?_of_block (w := X) (a := ⟨b, o, none⟩) (hh b e)).trans (h.fr b o hb1 hb2)

/-- A store elsewhere. -/
theorem Node.far (h : Node rB S i mo pv X) (b o : Nat) (v : Value) (hb : b < S + 3 * i) : Node rB S i mo pv (X.setCell ⟨b, o, none⟩ v) := by
  have k : ∀ b' o', b ≠ b' → (X.setCell ⟨b, o, none⟩ v).cell? ⟨b', o', none⟩ = X.cell? ⟨b', o', none⟩ := fun b' o' hb => set_ne X _ _ v _ _ (.inl hb)
  exact ⟨by simpa [World.setCell] using h.size, (Below.heap_setCell X _ v _ (by show S + 3 * i ≠ b; omega)).trans h.mp, (k _ _ (by omega)).trans h.n1, (k _ _ (by omega)).trans h.n2, (k _ _ (by omega)).trans h.n5, (k _ _ (by omega)).trans h.n20, (k _ _ (by omega)).trans h.n21,
    (k _ _ (by omega)).trans h.w2, (k _ _ (by omega)).trans h.w3, (k _ _ (by omega)).trans h.w4, (k _ _ (by omega)).trans h.w10, (k _ _ (by omega)).trans h.w11, fun b' o' h1 h2 => by rw [World.frozen?_setCell]; exact h.fr b' o' h1 h2⟩

/-- Its own link back. -/
theorem Node.setP (h : Node rB S i mo pv X) (v : Value) : Node rB S i mo v (X.setCell ⟨S + 3 * i + 2, 20, none⟩ v) := by
  have k : ∀ b' o', (S + 3 * i + 2 ≠ b' ∨ 20 ≠ o') → (X.setCell ⟨S + 3 * i + 2, 20, none⟩ v).cell? ⟨b', o', none⟩ = X.cell? ⟨b', o', none⟩ := fun b' o' hb => set_ne X _ _ v _ _ hb
  exact ⟨by simpa [World.setCell] using h.size, (Below.heap_setCell X _ v _ (by show S + 3 * i ≠ S + 3 * i + 2; omega)).trans h.mp, (k _ _ (by omega)).trans h.n1, (k _ _ (by omega)).trans h.n2, (k _ _ (by omega)).trans h.n5, World.cell?_setCell_same _ _ _ h.n20, (k _ _ (by omega)).trans h.n21,
    (k _ _ (by omega)).trans h.w2, (k _ _ (by omega)).trans h.w3, (k _ _ (by omega)).trans h.w4, (k _ _ (by omega)).trans h.w10, (k _ _ (by omega)).trans h.w11, fun b' o' h1 h2 => by rw [World.frozen?_setCell]; exact h.fr b' o' h1 h2⟩

/-- A store in the slice, behind the nodes that it holds. -/
theorem Lay.setQ (h : Lay tB rB oB gq S i bh s X) (ho : Ord B tB rB oB gq S) (v : Value) : Lay tB rB oB gq S i bh s (X.setCell ⟨gq, i, none⟩ v) := by
  obtain ⟨oa, ob, oc, od, oe, of, og, oh⟩ := ho
  have k : ∀ b o', (gq ≠ b ∨ i ≠ o') → (X.setCell ⟨gq, i, none⟩ v).cell? ⟨b, o', none⟩ = X.cell? ⟨b, o', none⟩ := fun b o' hb => set_ne X _ _ v _ _ hb
  exact ⟨by simpa [World.setCell] using h.size, (k _ _ (by omega)).trans h.t7, (k _ _ (by omega)).trans h.t15, (k _ _ (by omega)).trans h.t89, (k _ _ (by omega)).trans h.t90, (k _ _ (by omega)).trans h.t91,
    (k _ _ (by omega)).trans h.r1, (k _ _ (by omega)).trans h.r8, (k _ _ (by omega)).trans h.r10, (k _ _ (by omega)).trans h.r11, (k _ _ (by omega)).trans h.r13, (k _ _ (by omega)).trans h.r14,
    fun e => (k _ _ (by omega)).trans (h.o13 e), fun e => (k _ _ (by omega)).trans (h.o14 e), fun j hj => (k _ _ (by omega)).trans (h.q j hj),
    fun j hj => (k _ _ (by omega)).trans (h.n1 j hj), fun j hj => (k _ _ (by omega)).trans (h.n2 j hj), fun j hj => (k _ _ (by omega)).trans (h.n5 j hj), fun j hj => (k _ _ (by omega)).trans (h.n20 j hj), fun j hj => (k _ _ (by omega)).trans (h.n21 j hj),
    fun j hj => (k _ _ (by omega)).trans (h.w2 j hj), fun j hj => (k _ _ (by omega)).trans (h.w3 j hj), fun j hj => (k _ _ (by omega)).trans (h.w4 j hj), fun j hj => (k _ _ (by omega)).trans (h.w10 j hj), fun j hj => (k _ _ (by omega)).trans (h.w11 j hj),
    fun j hj => (Below.heap_setCell X _ v _ (by show S + 3 * j ≠ gq; omega)).trans (h.mp j hj),
    fun b o' h1 h2 => by rw [World.frozen?_setCell]; exact h.fr b o' h1 h2, fun o' => by rw [World.frozen?_setCell]; exact h.fo o'⟩

/-- The newest node joined to the others. -/
theorem Lay.join (h : Lay tB rB oB gq S i bh s X) (hn : Node rB S i mo pv X) (hq : X.cell? ⟨gq, i, none⟩ = some (ptr (S + 3 * i + 2)))
    (s' : St) (e : s' = { s with pv := s'.pv, nx := s'.nx, ip := s'.ip, iq := s'.iq, mp := s'.mp }) (e1 : ∀ j, j < i → s'.pv j = s.pv j) (e2 : ∀ j, j < i → s'.nx j = s.nx j) (e3 : ∀ j, j < i → s'.ip j = s.ip j) (e4 : ∀ j, j < i → s'.iq j = s.iq j) (e5 : ∀ j, j < i → s'.mp j = s.mp j)
    (f1 : s'.pv i = pv) (f2 : s'.nx i = .pointer none) (f3 : s'.ip i = .pointer none) (f4 : s'.iq i = .pointer none) (f5 : s'.mp i = mo) : Lay tB rB oB gq S (i + 1) bh s' X := by
  have hs := hn.size
  have a1 : s'.tq = s.tq := by rw [e]
  have a2 : s'.wt = s.wt := by rw [e]
  have a3 : s'.i1 = s.i1 := by rw [e]
  have a4 : s'.i2 = s.i2 := by rw [e]
  have a5 : s'.ic = s.ic := by rw [e]
  have a6 : s'.hd = s.hd := by rw [e]
  have a7 : s'.tl = s.tl := by rw [e]
  have a8 : s'.rp = s.rp := by rw [e]
  have a9 : s'.rn = s.rn := by rw [e]
  have a10 : s'.op = s.op := by rw [e]
  have a11 : s'.oq = s.oq := by rw [e]
  have c : ∀ (p : Nat → Prop), (∀ j, j < i → p j) → p i → ∀ j, j < i + 1 → p j := fun p p1 p2 j hj => by
    rcases Nat.lt_succ_iff_lt_or_eq.1 hj with h | rfl
    · exact p1 j h
    · exact p2
  exact ⟨by omega, by rw [a1]; exact h.t7, by rw [a2]; exact h.t15, by rw [a3]; exact h.t89, by rw [a4]; exact h.t90, by rw [a5]; exact h.t91, h.r1, h.r8, by rw [a6]; exact h.r10, by rw [a7]; exact h.r11, by rw [a8]; exact h.r13, by rw [a9]; exact h.r14,
    by rw [a10]; exact h.o13, by rw [a11]; exact h.o14, c _ h.q hq, c _ h.n1 hn.n1, c _ h.n2 hn.n2, c _ h.n5 hn.n5,
    c _ (fun j hj => by rw [e1 j hj]; exact h.n20 j hj) (by rw [f1]; exact hn.n20), c _ (fun j hj => by rw [e2 j hj]; exact h.n21 j hj) (by rw [f2]; exact hn.n21),
    c _ h.w2 hn.w2, c _ h.w3 hn.w3, c _ h.w4 hn.w4, c _ (fun j hj => by rw [e3 j hj]; exact h.w10 j hj) (by rw [f3]; exact hn.w10), c _ (fun j hj => by rw [e4 j hj]; exact h.w11 j hj) (by rw [f4]; exact hn.w11),
    c _ (fun j hj => by rw [e5 j hj]; exact h.mp j hj) (by rw [f5]; exact hn.mp),
    fun b o h1 h2 => by
      rcases Nat.lt_or_ge b (S + 3 * i) with h3 | h3
      · exact h.fr b o h1 h3
      · exact hn.fr b o h3 (by omega), h.fo⟩
end Go.Proofs.Ybulkbhha
