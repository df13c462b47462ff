import Derived.Test.YbulkbhfkSteps
namespace Go.Proofs.Ybulkbhfk
open Go.RowKit Go.Maps

theorem bs_own {w : World} {base : Nat} {v : Value} {l : List UInt8} (h : w.ownsRow base 5 1 v l.length (bytesV l)) : BS w v l := by
  obtain ⟨g, c, _, ⟨a, rfl, ha⟩, hb⟩ := own_any h
  exact ⟨a, c, rfl, fun h0 => ⟨g, 0, ha h0, fun j hj => own_cell h (hb h0) _ _ (by rw [Nat.zero_add, bytesV_get hj])⟩⟩

theorem four_cells {w : World} {g : Nat} {a b c e : Value} {t : TypeId} (h : w.heap[g]? = some (.cells #[a, b, c, e] t (0, 0))) : w.cell? ⟨g, 0, none⟩ = some a ∧ w.cell? ⟨g, 1, none⟩ = some b ∧ w.cell? ⟨g, 2, none⟩ = some c ∧ w.cell? ⟨g, 3, none⟩ = some e := by
  simp only [World.cell?, h]; exact ⟨rfl, rfl, rfl, rfl⟩
theorem bs_two {w : World} {base : Nat} {v : Value} {l r : List UInt8} (h : w.ownsRow base 5 1 v (l.length + r.length) (bytesV l ++ bytesV r)) : BS w v (l ++ r) := by
  rw [← bytesV_append, ← List.length_append] at h
  exact bs_own h

/-- A slice of bytes that came in, as what is appended. -/
theorem src_in {w W : World} {a : Option Addr} {l : List UInt8} {c : Nat} (h : Cells w a l.length (fun i => .int .u8 ((l.getD i 0).toNat : Int))) (hb : Below w.heap.size w W) : Src Yba.prog 1 25 (.slice a l.length c) l.length (bytesV l) W := by
  by_cases h0 : l.length = 0
  · have hl : l = [] := List.eq_nil_of_length_eq_zero h0
    subst hl
    cases a with
    | none => exact Src.ofNil W Yba.underlying25 c
    | some ad => exact Src.ofSlice W Yba.underlying25 ad 0 c [] rfl (fun j u hj => by simp at hj) (fun u hu => by cases hu)
  · obtain ⟨g, o, rfl, hg, hc⟩ := h (by omega)
    exact src_bs W g o c l (fun j hj => by
      rw [hb.cell (p := ⟨g, o + j, none⟩) hg, hc j hj]
      simp [List.getD, hj])

/-- '[', the bytes l, ']' behind a row of bytes. -/
theorem app3 (W : World) (base n g o c : Nat) (v : Value) (xs : List Value) (l : List UInt8) (hb : W.ownsRow base 5 1 v n xs) (hl : ∀ j (hj : j < l.length), W.cell? ⟨g, o + j, none⟩ = some (.int .u8 (l[j].toNat : Int))) (hgl : g < W.heap.size) (hgb : v.ownBlock ≠ some g)
    (hn : n + l.length + 2 ≤ 140737489403904) (hbase : base ≤ W.heap.size) :
    ∃ v1 W1 v2 W2 v3 W3, (Builtin.append_ #[25, 25] 25 #[v, .slice (some ⟨W.heap.size, 0, none⟩) 1 1]).run Yba.prog (W.alloc (.cells #[.int .u8 91] 5)) = .ok v1 W1 ∧
      (Builtin.append_ #[25, 25] 25 #[v1, .slice (some ⟨g, o, none⟩) l.length c]).run Yba.prog W1 = .ok v2 W2 ∧
      (Builtin.append_ #[25, 25] 25 #[v2, .slice (some ⟨W2.heap.size, 0, none⟩) 1 1]).run Yba.prog (W2.alloc (.cells #[.int .u8 93] 5)) = .ok v3 W3 ∧
      W3.ownsRow base 5 1 v3 (n + ([91] ++ l ++ [93]).length) (xs ++ bytesV ([91] ++ l ++ [93])) ∧ Kept W W1 (fun k => v.ownBlock = some k) ∧ Kept W W3 (fun k => v.ownBlock = some k) ∧ (∀ g, v3.ownBlock = some g → v.ownBlock = some g ∨ W.heap.size ≤ g) := by
  obtain ⟨v1, W4, hrun2, happ2⟩ := app_bytes (W.alloc (.cells [.int .u8 91].toArray 5)) base 25 v n xs (hb.alloc _) _ 1 _ (src_new W 1 25 5 Yba.underlying25 [.int .u8 91] 5 1 rfl (by intro u hu; simp at hu; subst hu; rfl)) (by omega) (by simp; omega)
  have K4 : Kept W W4 (fun k => v.ownBlock = some k) := ((Kept.refl W _).alloc _).grown happ2.2.1 (fun g hg => .inl hg)
  have n1 : ∀ g, v1.ownBlock = some g → v.ownBlock = some g ∨ W.heap.size ≤ g := fun g hg => by
    rcases own_new happ2 g hg with h | h
    · exact .inl h
    · right; simp at h; omega
  have hl4 : ∀ j (hj : j < l.length), W4.cell? ⟨g, o + j, none⟩ = some (.int .u8 (l[j].toNat : Int)) := fun j hj => by
    rw [K4.cell (p := ⟨g, o + j, none⟩) hgl hgb]; exact hl j hj
  obtain ⟨v2, W5, hrun3, happ3⟩ := app_bytes W4 base 25 v1 (n + 1) _ happ2.1 _ _ _ (src_bs W4 g o c l hl4) (by omega) (by have := K4.size; omega)
  have K5 : Kept W W5 (fun k => v.ownBlock = some k) := K4.grown happ3.2.1 n1
  have n2 : ∀ g, v2.ownBlock = some g → v.ownBlock = some g ∨ W.heap.size ≤ g := fun g hg => by
    rcases own_new happ3 g hg with h | h
    · exact n1 g h
    · right; have := K4.size; omega
  obtain ⟨v3, W6, hrun4, happ4⟩ := app_bytes (W5.alloc (.cells [.int .u8 93].toArray 5)) base 25 v2 (n + 1 + l.length) _ (happ3.1.alloc _) _ 1 _ (src_new W5 1 25 5 Yba.underlying25 [.int .u8 93] 5 1 rfl (by intro u hu; simp at hu; subst hu; rfl)) (by omega) (by simp; have := K5.size; omega)
  have K6 : Kept W W6 (fun k => v.ownBlock = some k) := (K5.alloc _).grown happ4.2.1 n2
  refine ⟨v1, W4, v2, W5, v3, W6, hrun2, hrun3, hrun4, ?_, K4, K6, fun g hg => ?_⟩
  · have := happ4.1
    rw [show n + 1 + l.length + 1 = n + ([91] ++ l ++ [93]).length from by simp; omega, show xs ++ [Value.int IntKind.u8 91] ++ bytesV l ++ [Value.int IntKind.u8 93] = xs ++ bytesV ([91] ++ l ++ [93]) from by simp [bytesV]] at this
    exact this
  · rcases own_new happ4 g hg with h | h
    · exact n2 g h
    · right; simp at h; have := K5.size; omega

theorem Data.logs_length (d : Data) (gW cW k : Nat) : (d.logs gW cW k).length = k * 4 := by
  induction k with
  | zero => rfl
  | succ k ih => simp [Data.logs, ih, Data.entry]; omega
theorem Data.logs_get (d : Data) (gW cW k i j : Nat) (hi : i < k) (hj : j < 4) : (d.logs gW cW k)[i * 4 + j]? = (d.entry gW cW i)[j]? := by
  induction k with
  | zero => omega
  | succ k ih =>
    have hlen := d.logs_length gW cW k
    by_cases e : i = k
    · subst e
      rw [Data.logs, List.getElem?_append_right (by omega), hlen, show i * 4 + j - i * 4 = j from by omega]
    · rw [Data.logs, List.getElem?_append_left (by omega)]; exact ih (by omega)

/-- What the law's last loop looks at: the log, the entries as they were written, what was handed back. N: all of it lies below. -/
structure Fin (d : Data) (B Bl gW cW k' np N : Nat) (vL vb : Value) (pl : List UInt8) (W : World) : Prop where
  fl : W.heap[Bl]? = some (.cells #[vL] 34 (0, 0))
  rl : W.ownsRow (B + 3) 36 4 vL k' (d.logs gW cW k')
  xW : ∀ i, i < d.n → ∀ j (hj : j < (d.wl i).length), W.cell? ⟨gW, d.st i + j, none⟩ = some (.int .u8 ((d.wl i)[j].toNat : Int))
  ws : ∃ cur : List Value, cur.length = d.n ∧ W.heap[B + 2]? = some (.cells cur.toArray 25 (0, 0)) ∧ ∀ i, i < d.n → ∃ g c, cur[i]? = some (.slice (some ⟨g, 0, none⟩) (d.wl i).length c) ∧ g < N ∧ W.ownsRow (B + 3) 5 1 (.slice (some ⟨g, 0, none⟩) (d.wl i).length c) (d.wl i).length (bytesV (d.wl i))
  got : W.ownsRow (B + 3) 5 1 vb (np + (d.outs k').length) (bytesV pl ++ bytesV (d.outs k'))
  lt : Bl < N ∧ B + 2 < N ∧ (0 < d.n → gW < N) ∧ (∀ g, vL.ownBlock = some g → g < N) ∧ (∀ g, vb.ownBlock = some g → g < N) ∧ N ≤ W.heap.size

theorem Fin.kept {d : Data} {B Bl gW cW k' np N : Nat} {vL vb : Value} {pl : List UInt8} {W W' : World} {T : Nat → Prop} (h : Fin d B Bl gW cW k' np N vL vb pl W) (hk : Kept W W' T) (hT : ∀ g, T g → N ≤ g) : Fin d B Bl gW cW k' np N vL vb pl W' := by
  obtain ⟨l1, l2, l3, l4, l5, l6⟩ := h.lt
  have nT : ∀ g, g < N → ¬ T g := fun g hg e => by have := hT g e; omega
  refine ⟨(hk.block Bl (by omega) (nT _ l1)).trans h.fl, hk.own h.rl (fun g hg => nT g (l4 g hg)), fun i hi j hj => ?_, ?_, hk.own h.got (fun g hg => nT g (l5 g hg)), ⟨l1, l2, l3, l4, l5, Nat.le_trans l6 hk.size⟩⟩
  · have := l3 (by omega)
    rw [hk.cell (p := ⟨gW, d.st i + j, none⟩) (by show gW < _; omega) (nT _ this)]; exact h.xW i hi j hj
  · obtain ⟨cur, e1, e2, e3⟩ := h.ws
    refine ⟨cur, e1, (hk.block (B + 2) (by omega) (nT _ l2)).trans e2, fun i hi => ?_⟩
    obtain ⟨g, c, f1, f2, f3⟩ := e3 i hi
    exact ⟨g, c, f1, f2, hk.own f3 (fun g' hg => nT g' (by simp [Value.ownBlock] at hg; omega))⟩

/-- Entry i of the log: its four cells. -/
theorem Fin.entry {d : Data} {B Bl gW cW k' np N gL cL : Nat} {vb : Value} {pl : List UInt8} {W : World} (h : Fin d B Bl gW cW k' np N (.slice (some ⟨gL, 0, none⟩) k' cL) vb pl W) (i : Nat) (hi : i < k') :
    W.cell? ⟨gL, i * 4, none⟩ = some (d.bef gW cW i) ∧ W.cell? ⟨gL, i * 4 + 1, none⟩ = some (d.slot gW cW i) ∧ W.cell? ⟨gL, i * 4 + 2, none⟩ = some (.bool (d.befA gW i).isNone) ∧ W.cell? ⟨gL, i * 4 + 3, none⟩ = some (.int .u64 (d.sq i)) := by
  have hc : ∀ j, j < 4 → W.cell? ⟨gL, i * 4 + j, none⟩ = (d.entry gW cW i)[j]? := fun j hj => by
    rw [h.rl.cellAt (i * 4 + j) (by omega), d.logs_get gW cW k' i j hi hj]
  exact ⟨hc 0 (by decide), hc 1 (by decide), hc 2 (by decide), hc 3 (by decide)⟩
theorem Fin.ws_cell {d : Data} {B Bl gW cW k' np N : Nat} {vL vb : Value} {pl : List UInt8} {W : World} (h : Fin d B Bl gW cW k' np N vL vb pl W) (i : Nat) (hi : i < d.n) :
    ∃ g c, W.cell? ⟨B + 1 + 1, i, none⟩ = some (.slice (some ⟨g, 0, none⟩) (d.wl i).length c) ∧ g < N ∧ (∀ j (hj : j < (d.wl i).length), W.cell? ⟨g, 0 + j, none⟩ = some (.int .u8 ((d.wl i)[j].toNat : Int))) ∧ BS W (.slice (some ⟨g, 0, none⟩) (d.wl i).length c) (d.wl i) := by
  obtain ⟨cur, e1, e2, e3⟩ := h.ws
  obtain ⟨g, c, f1, f2, f3⟩ := e3 i hi
  have e2' : W.heap[B + 1 + 1]? = some (.cells cur.toArray 25 (0, 0)) := e2
  refine ⟨g, c, ?_, f2, fun j hj => own_cell f3 rfl _ _ (by rw [Nat.zero_add, bytesV_get hj]), bs_own f3⟩
  simp only [World.cell?, e2']
  simpa using f1
theorem Fin.bs_slot {d : Data} {B Bl gW cW k' np N : Nat} {vL vb : Value} {pl : List UInt8} {W : World} (h : Fin d B Bl gW cW k' np N vL vb pl W) (i : Nat) (hi : i < d.n) : BS W (d.slot gW cW i) (d.wl i) :=
  ⟨_, _, rfl, fun _ => ⟨gW, d.st i, rfl, h.xW i hi⟩⟩

/-- Behind appendInOrder: all that the last loop looks at. -/
theorem fin_of {d : Data} {w wr W2 W3 : World} {B Bl gO gW gE cO cW cE np k' : Nat} {vO vW vE vb vb' vL' : Value} {pl : List UInt8} (hI : Inv d w B d.n d.n d.n d.n d.n wr vO vW vE) (hS : Stat d wr B (B + 1) gO gW gE cO cW cE vO vW vE)
    (hK : Kept wr W2 (fun _ => False)) (hBl : wr.heap.size ≤ Bl) (hvb : ∀ g, vb.ownBlock = some g → wr.heap.size ≤ g) (hp : Prog d W2 (B + 3) Bl np gW cW vb (.slice none 0 0) (bytesV pl) k' vb' vL' W3) : Fin d B Bl gW cW k' np W3.heap.size vL' vb' pl W3 := by
  have hs := hI.size
  have hs2 := hK.size
  have hs3 := hp.kept.size
  have nT : ∀ g, g < wr.heap.size → ¬ (g = Bl ∨ vb.ownBlock = some g ∨ (Value.slice none 0 0).ownBlock = some g) := fun g hg e => by
    rcases e with e | e | e
    · omega
    · have := hvb g e; omega
    · cases e
  refine ⟨hp.lc, hp.l, fun i hi j hj => ?_, ?_, hp.b, ⟨lt_of_heap hp.lc, by omega, fun h0 => ?_, fun g hg => (hp.l.lt g hg).2, fun g hg => (hp.b.lt g hg).2, Nat.le_refl _⟩⟩
  · have hg := (hS.lt.2.2 (by omega)).2.1
    rw [hp.kept.cell (p := ⟨gW, d.st i + j, none⟩) (by show gW < _; omega) (nT gW hg), hK.cell (p := ⟨gW, d.st i + j, none⟩) hg id]; exact hS.xW i hi j hj
  · obtain ⟨cur, e1, e2, e3⟩ := hI.s
    refine ⟨cur, e1, (hp.kept.block (B + 2) (by omega) (nT _ (by omega))).trans ((hK.block (B + 2) (by omega) id).trans e2), fun i hi => ?_⟩
    obtain ⟨g, c, f1, f2, _⟩ := e3 i hi
    have hgl := (f2.lt g rfl).2
    exact ⟨g, c, f1, by omega, hp.kept.own (hK.own f2 (fun _ _ => id)) (fun g' hg => nT g' (by simp [Value.ownBlock] at hg; omega))⟩
  · have := (hS.lt.2.2 h0).2.1; omega
end Go.Proofs.Ybulkbhfk
