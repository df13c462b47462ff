import Derived.Test.YbulkbhfkApp
namespace Go.Proofs.Ybulkbhfk
open Go.RowKit

/-- Of what lay in w, w' has turned at most the blocks in T. -/
structure Kept (w w' : World) (T : Nat → Prop) : Prop where
  os : w'.os = w.os
  tape : w'.tape = w.tape
  output : w'.output = w.output
  size : w.heap.size ≤ w'.heap.size
  block : ∀ k, k < w.heap.size → ¬ T k → w'.heap[k]? = w.heap[k]?
section
variable {w w1 w2 : World} {T : Nat → Prop}
theorem Kept.refl (w : World) (T : Nat → Prop) : Kept w w T := ⟨rfl, rfl, rfl, Nat.le_refl _, fun _ _ _ => rfl⟩
theorem Kept.grown (h : Kept w w1 T) {row : Option Nat} (hg : w1.grownBy w2 row) (hr : ∀ g, row = some g → T g ∨ w.heap.size ≤ g) : Kept w w2 T :=
  ⟨hg.os.trans h.os, hg.tape.trans h.tape, hg.output.trans h.output, Nat.le_trans h.size hg.size, fun k hk hT => by
    rw [hg.block k (Nat.lt_of_lt_of_le hk h.size) (fun e => by rcases hr k e.symm with h1 | h1; exact hT h1; omega)]; exact h.block k hk hT⟩
theorem Kept.alloc (h : Kept w w1 T) (o : Obj) : Kept w (w1.alloc o) T := h.grown (World.grownBy_alloc w1 o none) (fun _ e => by cases e)
theorem Kept.drew (h : Kept w w1 T) : Kept w w1.drew T := ⟨h.os, h.tape, h.output, h.size, h.block⟩
theorem Kept.setCell (h : Kept w w1 T) {a : Addr} (ha : T a.block ∨ w.heap.size ≤ a.block) (v : Value) : Kept w (w1.setCell a v) T :=
  ⟨h.os, h.tape, h.output, by simpa [World.setCell] using h.size, fun k hk hT => by
    rw [Below.heap_setCell w1 a v k (fun e => by subst e; rcases ha with h1 | h1; exact hT h1; omega)]; exact h.block k hk hT⟩
theorem Kept.trans (h : Kept w w1 T) {T' : Nat → Prop} (h' : Kept w1 w2 T') (ht : ∀ g, T' g → T g ∨ w.heap.size ≤ g) : Kept w w2 T :=
  ⟨h'.os.trans h.os, h'.tape.trans h.tape, h'.output.trans h.output, Nat.le_trans h.size h'.size, fun k hk hT => by
    rw [h'.block k (Nat.lt_of_lt_of_le hk h.size) (fun e => by rcases ht k e with h1 | h1; exact hT h1; omega)]; exact h.block k hk hT⟩
theorem Kept.mono (h : Kept w w1 T) {T' : Nat → Prop} (ht : ∀ g, T g → T' g) : Kept w w1 T' := ⟨h.os, h.tape, h.output, h.size, fun k hk hT => h.block k hk (fun e => hT (ht k e))⟩
theorem Kept.below (h : Kept w w1 T) {B : Nat} (hB : B ≤ w.heap.size) (ht : ∀ g, T g → B ≤ g) : Below B w w1 :=
  ⟨h.os, h.tape, h.output, h.size, fun k hk => h.block k (by omega) (fun e => by have := ht k e; omega)⟩
theorem Kept.of_below (h : Below w.heap.size w w1) : Kept w w1 T := ⟨h.os, h.tape, h.output, h.size, fun k hk _ => h.block k hk⟩
theorem Kept.cell (h : Kept w w1 T) {p : Addr} (hp : p.block < w.heap.size) (hn : ¬ T p.block) : w1.cell? p = w.cell? p := World.cell?_of_block (w := w) (h.block p.block hp hn)
theorem Kept.grownBy (h : Kept w w1 T) (hn : ∀ g, ¬ T g) : w.grownBy w1 none := ⟨h.os, h.tape, h.output, h.size, fun k hk _ => h.block k hk (hn k)⟩
/-- What is owned stays owned where its block is not touched. -/
theorem Kept.own (h : Kept w w1 T) {base : Nat} {e : TypeId} {size : Nat} {v : Value} {n : Nat} {xs : List Value} (ho : w.ownsRow base e size v n xs) (hn : ∀ g, v.ownBlock = some g → ¬ T g) : w1.ownsRow base e size v n xs := by
  obtain ⟨h1, h2⟩ := ho
  refine ⟨h1, h2.imp id ?_⟩
  rintro ⟨g, cap, cur, rfl, hb, hg, r⟩
  have hlt : g < w.heap.size := by
    rcases Nat.lt_or_ge g w.heap.size with h' | h'
    · exact h'
    · rw [Array.getElem?_eq_none h'] at hg; cases hg
  exact ⟨g, cap, cur, rfl, hb, (h.block g hlt (hn g rfl)).trans hg, r⟩
end

theorem lt_of_heap {w : World} {g : Nat} {o : Obj} (h : w.heap[g]? = some o) : g < w.heap.size := by
  rcases Nat.lt_or_ge g w.heap.size with h' | h'
  · exact h'
  · rw [Array.getElem?_eq_none h'] at h; cases h

/-- A row's block bears its element type. -/
theorem own_block {w : World} {base : Nat} {e : TypeId} {size : Nat} {v : Value} {n : Nat} {xs : List Value} (h : w.ownsRow base e size v n xs) {g : Nat} (hg : v.ownBlock = some g) : ∃ cur, w.heap[g]? = some (.cells cur e (0, 0)) := by
  rcases h.2 with ⟨rfl, _⟩ | ⟨g', cap, cur, rfl, _, hh, _⟩
  · cases hg
  · simp [Value.ownBlock] at hg; subst hg; exact ⟨cur, hh⟩
theorem own_lt {w : World} {base : Nat} {e : TypeId} {size : Nat} {v : Value} {n : Nat} {xs : List Value} (h : w.ownsRow base e size v n xs) {g : Nat} (hg : v.ownBlock = some g) : base ≤ g ∧ g < w.heap.size := h.lt g hg
/-- Two rows of different element types do not lie in one block. -/
theorem own_apart {w : World} {base base' : Nat} {e e' : TypeId} {size size' : Nat} {v v' : Value} {n n' : Nat} {xs xs' : List Value} (h : w.ownsRow base e size v n xs) (h' : w.ownsRow base' e' size' v' n' xs') (hne : e ≠ e') {g : Nat} (hg : v.ownBlock = some g) : v'.ownBlock ≠ some g := fun hg' => by
  obtain ⟨c, hc⟩ := own_block h hg
  obtain ⟨c', hc'⟩ := own_block h' hg'
  rw [hc] at hc'
  injection hc' with hc'
  injection hc' with _ he
  exact hne he
theorem own_not_block {w : World} {base : Nat} {e e' : TypeId} {size : Nat} {v : Value} {n : Nat} {xs : List Value} (h : w.ownsRow base e size v n xs) {g : Nat} {cs : Array Value} {fr : Nat × Nat} (hg : w.heap[g]? = some (.cells cs e' fr)) (hne : e ≠ e') : v.ownBlock ≠ some g := fun hv => by
  obtain ⟨c, hc⟩ := own_block h hv
  rw [hc] at hg
  injection hg with hg
  injection hg with _ he
  exact hne he

def bytesV (l : List UInt8) : List Value := l.map fun b => .int .u8 (b.toNat : Int)
theorem bytesV_length (l : List UInt8) : (bytesV l).length = l.length := by simp [bytesV]
theorem bytesV_append (l r : List UInt8) : bytesV (l ++ r) = bytesV l ++ bytesV r := by simp [bytesV]
theorem bytesV_one (l : List UInt8) : ∀ v ∈ bytesV l, v.oneCell' = true := fun v hv => by
  obtain ⟨_, _, rfl⟩ := List.mem_map.1 hv
  rfl
theorem bytesV_get {l : List UInt8} {j : Nat} (hj : j < l.length) : (bytesV l)[j]? = some (.int .u8 (l[j].toNat : Int)) := by simp [bytesV, hj]

theorem info5 : (Yba.prog.info? 5).map (fun i => (i.zero, i.size, i.bytes)) = some (some (.int .u8 0), 1, 1) := by kernel_rfl
theorem info9 : (Yba.prog.info? 9).map (fun i => (i.zero, i.size, i.bytes)) = some (some (.string ⟨#[]⟩), 1, 16) := by kernel_rfl
theorem info3 : (Yba.prog.info? 3).map (fun i => (i.zero, i.size, i.bytes)) = some (some (.int .i64 0), 1, 8) := by kernel_rfl
theorem info36 : (Yba.prog.info? 36).map (fun i => (i.zero, i.size, i.bytes)) = some (some (.agg #[.slice none 0 0, .slice none 0 0, .bool false, .int .u64 0]), 4, 64) := by kernel_rfl

/-- append onto a row of bytes. -/
theorem app_bytes (w : World) (base tx : Nat) (v : Value) (n : Nat) (xs : List Value) (hown : w.ownsRow base 5 1 v n xs) (x : Value) (m : Nat) (news : List Value) (hs : Src Yba.prog 1 tx x m news w) (hfit : n + m ≤ 140737489403904) (hbase : base ≤ w.heap.size) :
    ∃ v' w', (Builtin.append_ #[25, tx] 25 #[v, x]).run Yba.prog w = .ok v' w' ∧ Appended w base 5 1 v (n + m) (xs ++ news) v' w' := by
  obtain ⟨i, hi, hz, hs1, hb⟩ := info_parts info5
  exact append_src w base 25 tx 25 5 i _ 1 1 Yba.underlying25 hi hz hs1 hb rfl v n xs hown x m news hs (fun old ho => by rw [Nat.mul_one]; exact nextcap_le _ _ ho hfit) (by unfold maxLen; omega) hbase
theorem app_strs (w : World) (base : Nat) (v : Value) (n : Nat) (xs : List Value) (hown : w.ownsRow base 9 1 v n xs) (x : Value) (m : Nat) (news : List Value) (hs : Src Yba.prog 1 22 x m news w) (hfit : n + m ≤ 100000) (hbase : base ≤ w.heap.size) :
    ∃ v' w', (Builtin.append_ #[22, 22] 22 #[v, x]).run Yba.prog w = .ok v' w' ∧ Appended w base 9 1 v (n + m) (xs ++ news) v' w' := by
  obtain ⟨i, hi, hz, hs1, hb⟩ := info_parts info9
  exact append_src w base 22 22 22 9 i _ 1 16 Yba.underlying22 hi hz hs1 hb rfl v n xs hown x m news hs (fun old ho => growslice_fits ho (by omega)) (by unfold maxLen; omega) hbase
theorem app_ints (w : World) (base : Nat) (v : Value) (n : Nat) (xs : List Value) (hown : w.ownsRow base 3 1 v n xs) (x : Value) (m : Nat) (news : List Value) (hs : Src Yba.prog 1 27 x m news w) (hfit : n + m ≤ 100000) (hbase : base ≤ w.heap.size) :
    ∃ v' w', (Builtin.append_ #[27, 27] 27 #[v, x]).run Yba.prog w = .ok v' w' ∧ Appended w base 3 1 v (n + m) (xs ++ news) v' w' := by
  obtain ⟨i, hi, hz, hs1, hb⟩ := info_parts info3
  exact append_src w base 27 27 27 3 i _ 1 8 Yba.underlying27 hi hz hs1 hb rfl v n xs hown x m news hs (fun old ho => growslice_fits ho (by omega)) (by unfold maxLen; omega) hbase
theorem app_log (w : World) (base : Nat) (v : Value) (n : Nat) (xs : List Value) (hown : w.ownsRow base 36 4 v n xs) (x : Value) (m : Nat) (news : List Value) (hs : Src Yba.prog 4 34 x m news w) (hfit : n + m ≤ 100000) (hbase : base ≤ w.heap.size) :
    ∃ v' w', (Builtin.append_ #[34, 34] 34 #[v, x]).run Yba.prog w = .ok v' w' ∧ Appended w base 36 4 v (n + m) (xs ++ news) v' w' := by
  obtain ⟨i, hi, hz, hs1, hb⟩ := info_parts info36
  exact append_src w base 34 34 34 36 i _ 4 64 Yba.underlying34 hi hz hs1 hb rfl v n xs hown x m news hs (fun old ho => growslice_fits ho (by omega)) (by unfold maxLen; omega) hbase

/-- A block of new cells, as what is appended. -/
theorem src_new (w : World) (size tx e' : Nat) (hk : Yba.prog.underlying tx = some (.slice e')) (cs : List Value) (e : TypeId) (n : Nat) (hl : cs.length = n * size) (h1 : ∀ u ∈ cs, u.oneCell' = true) :
    Src Yba.prog size tx (.slice (some ⟨w.heap.size, 0, none⟩) n n) n cs (w.alloc (.cells cs.toArray e)) :=
  Src.ofSlice (w.alloc (.cells cs.toArray e)) hk ⟨w.heap.size, 0, none⟩ n n cs hl (fun j u hj => by
    have hh : (w.alloc (.cells cs.toArray e)).heap[w.heap.size]? = some (.cells cs.toArray e) := heap_alloc_new w _
    rw [Addr.add_mid, Nat.zero_add]
    simp only [World.cell?, hh]
    simpa using hj) h1
/-- A slice of bytes that reads l, as what is appended. -/
theorem src_bs (w : World) (g o c : Nat) (l : List UInt8) (h : ∀ j (hj : j < l.length), w.cell? ⟨g, o + j, none⟩ = some (.int .u8 (l[j].toNat : Int))) :
    Src Yba.prog 1 25 (.slice (some ⟨g, o, none⟩) l.length c) l.length (bytesV l) w :=
  Src.ofSlice w Yba.underlying25 ⟨g, o, none⟩ l.length c (bytesV l) (by rw [bytesV_length, Nat.mul_one]) (fun j u hj => by
    have hjl : j < l.length := by have := (List.getElem?_eq_some_iff.1 hj).1; rwa [bytesV_length] at this
    rw [Addr.add_mid, h j hjl, ← hj, bytesV_get hjl]) (bytesV_one l)
end Go.Proofs.Ybulkbhfk
