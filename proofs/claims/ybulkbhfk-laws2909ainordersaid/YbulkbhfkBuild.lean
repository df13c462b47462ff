import Derived.Test.YbulkbhfkInOrder
namespace Go.Proofs.Ybulkbhfk
open Go.RowKit Go.Maps

def Data.orgV (d : Data) : Nat → List Value
  | 0 => []
  | k + 1 => d.orgV k ++ [.string (d.org k)]
def Data.endV (d : Data) : Nat → List Value
  | 0 => []
  | k + 1 => d.endV k ++ [.int .i64 (d.st (k + 1))]
def Data.wrt (d : Data) : Nat → List UInt8
  | 0 => []
  | k + 1 => d.wrt k ++ d.wl k
theorem Data.orgV_length (d : Data) (k : Nat) : (d.orgV k).length = k := by induction k with | zero => rfl | succ k ih => simp [Data.orgV, ih]
theorem Data.endV_length (d : Data) (k : Nat) : (d.endV k).length = k := by induction k with | zero => rfl | succ k ih => simp [Data.endV, ih]
theorem Data.wrt_length (d : Data) (hd : d.Good) (k : Nat) : (d.wrt k).length = d.st k := by induction k with | zero => rw [hd.st0]; rfl | succ k ih => rw [hd.stS]; simp [Data.wrt, ih]
theorem Data.orgV_get (d : Data) (k i : Nat) (h : i < k) : (d.orgV k)[i]? = some (.string (d.org i)) := by
  induction k with
  | zero => omega
  | succ k ih =>
    by_cases e : i = k
    · subst e; simp [Data.orgV, d.orgV_length]
    · rw [Data.orgV, List.getElem?_append_left (by rw [d.orgV_length]; omega)]; exact ih (by omega)
theorem Data.endV_get (d : Data) (k i : Nat) (h : i < k) : (d.endV k)[i]? = some (.int .i64 (d.st (i + 1))) := by
  induction k with
  | zero => omega
  | succ k ih =>
    by_cases e : i = k
    · subst e; simp [Data.endV, d.endV_length]
    · rw [Data.endV, List.getElem?_append_left (by rw [d.endV_length]; omega)]; exact ih (by omega)
theorem Data.wrt_get (d : Data) (hd : d.Good) (k i : Nat) (h : i < k) (j : Nat) (hj : j < (d.wl i).length) : (d.wrt k)[d.st i + j]? = some (d.wl i)[j] := by
  induction k with
  | zero => omega
  | succ k ih =>
    by_cases e : i = k
    · subst e
      rw [Data.wrt, List.getElem?_append_right (by rw [d.wrt_length hd]; omega), d.wrt_length hd, show d.st i + j - d.st i = j from by omega, List.getElem?_eq_getElem hj]
    · have := hd.st_mono k (i + 1) (by omega)
      have := hd.stS i
      rw [Data.wrt, List.getElem?_append_left (by rw [d.wrt_length hd]; omega)]; exact ih (by omega)

/-- The map behind kM rounds: just the first kM origins that are there, each with its number. -/
def MSpec (d : Data) (kM : Nat) (D : DataW Unit) : Prop := ∀ i, i < d.n → Maps.has D (d.key i) = (decide (i < kM) && d.ok i) ∧ (i < kM → d.ok i = true → D.atKey (d.key i) (.lit (.int .u64 0)) = .lit (.int .u64 (d.sq i)))

structure Inv (d : Data) (w : World) (B kO kW kE kM kS : Nat) (wr : World) (vO vW vE : Value) : Prop where
  below : Below B w wr
  size : B + 3 ≤ wr.heap.size
  fo : wr.heap[B]? = some (.cells #[vO, vW, vE] 29 (0, 0))
  rO : wr.ownsRow (B + 3) 9 1 vO kO (d.orgV kO)
  rW : wr.ownsRow (B + 3) 5 1 vW (d.st kW) (bytesV (d.wrt kW))
  rE : wr.ownsRow (B + 3) 3 1 vE kE (d.endV kE)
  m : ∃ cnt D, cnt ≤ kM ∧ wr.ownsMap Yba.prog 9 (plainElem (H := Unit) Yba.prog 33) (B + 1) cnt D ∧ MSpec d kM D
  s : ∃ cur : List Value, cur.length = d.n ∧ wr.heap[B + 2]? = some (.cells cur.toArray 25 (0, 0)) ∧ ∀ i, i < kS → ∃ g c, cur[i]? = some (.slice (some ⟨g, 0, none⟩) (d.wl i).length c) ∧ wr.ownsRow (B + 3) 5 1 (.slice (some ⟨g, 0, none⟩) (d.wl i).length c) (d.wl i).length (bytesV (d.wl i)) ∧ vW.ownBlock ≠ some g

section
variable {d : Data} {w : World} {B kO kW kE kM kS : Nat} {wr : World} {vO vW vE : Value}
/-- Where nothing of all that is touched. -/
theorem Inv.kept (h : Inv d w B kO kW kE kM kS wr vO vW vE) {w2 : World} (hk : Kept wr w2 (fun _ => False)) : Inv d w B kO kW kE kM kS w2 vO vW vE := by
  have hs := h.size
  refine ⟨h.below.trans (hk.below (by omega) (fun _ h => h.elim)), Nat.le_trans h.size hk.size, (hk.block B (by omega) id).trans h.fo, hk.own h.rO (fun _ _ => id), hk.own h.rW (fun _ _ => id), hk.own h.rE (fun _ _ => id), ?_, ?_⟩
  · obtain ⟨cnt, D, hc, hm, hd⟩ := h.m
    exact ⟨cnt, D, hc, hm.kept (hk.grownBy (fun _ => id)) (by simp), hd⟩
  · obtain ⟨cur, hl, hc, hr⟩ := h.s
    refine ⟨cur, hl, (hk.block (B + 2) (by omega) id).trans hc, fun i hi => ?_⟩
    obtain ⟨g, c, h1, h2, h3⟩ := hr i hi
    exact ⟨g, c, h1, hk.own h2 (fun _ _ => id), h3⟩

/-- What stands apart from a touched row (and from the struct's own block). -/
theorem Inv.rest (h : Inv d w B kO kW kE kM kS wr vO vW vE) {w2 : World} {T : Nat → Prop} (hk : Kept wr w2 T) (hT : ∀ g, T g → B + 3 ≤ g ∨ g = B) :
    Below B w w2 ∧ B + 3 ≤ w2.heap.size ∧ (∃ cnt D, cnt ≤ kM ∧ w2.ownsMap Yba.prog 9 (plainElem (H := Unit) Yba.prog 33) (B + 1) cnt D ∧ MSpec d kM D) := by
  have hs := h.size
  refine ⟨h.below.trans (hk.below (by omega) (fun g hg => by rcases hT g hg with h | h <;> omega)), Nat.le_trans h.size hk.size, ?_⟩
  obtain ⟨cnt, D, hc, ⟨es, clock, hh, r⟩, hd⟩ := h.m
  exact ⟨cnt, D, hc, ⟨es, clock, (hk.block (B + 1) (by omega) (fun e => by rcases hT _ e with h | h <;> omega)).trans hh, r⟩, hd⟩

theorem set3_0 {w : World} {g : Nat} {a b c u : Value} {t : TypeId} (h : w.heap[g]? = some (.cells #[a, b, c] t (0, 0))) : (w.setCell ⟨g, 0, none⟩ u).heap[g]? = some (.cells #[u, b, c] t (0, 0)) := by
  simp [World.setCell, Array.getElem?_modify, h]
theorem set3_1 {w : World} {g : Nat} {a b c u : Value} {t : TypeId} (h : w.heap[g]? = some (.cells #[a, b, c] t (0, 0))) : (w.setCell ⟨g, 1, none⟩ u).heap[g]? = some (.cells #[a, u, c] t (0, 0)) := by
  simp [World.setCell, Array.getElem?_modify, h]
theorem set3_2 {w : World} {g : Nat} {a b c u : Value} {t : TypeId} (h : w.heap[g]? = some (.cells #[a, b, c] t (0, 0))) : (w.setCell ⟨g, 2, none⟩ u).heap[g]? = some (.cells #[a, b, u] t (0, 0)) := by
  simp [World.setCell, Array.getElem?_modify, h]

theorem own_ge {w : World} {base : Nat} {e : TypeId} {size : Nat} {v : Value} {n : Nat} {xs : List Value} (h : w.ownsRow base e size v n xs) {g : Nat} (hg : v.ownBlock = some g) : base ≤ g := (h.lt g hg).1

/-- 'o.origins = append(o.origins, ..)' -/
theorem Inv.stepO (h : Inv d w B kO kW kE kM kS wr vO vW vE) {w2 : World} {v' : Value} (hk : Kept wr w2 (fun k => vO.ownBlock = some k)) (hr : w2.ownsRow (B + 3) 9 1 v' (kO + 1) (d.orgV (kO + 1))) :
    Inv d w B (kO + 1) kW kE kM kS (w2.setCell ⟨B, 0, none⟩ v') v' vW vE := by
  have hs := h.size
  have hT : ∀ g, vO.ownBlock = some g → B + 3 ≤ g ∨ g = B := fun g hg => .inl (own_ge h.rO hg)
  have hB : ¬ (vO.ownBlock = some B) := fun e => by have := own_ge h.rO e; omega
  have fo2 := (hk.block B (by omega) hB).trans h.fo
  have hk3 : Kept wr (w2.setCell ⟨B, 0, none⟩ v') (fun k => vO.ownBlock = some k ∨ k = B) := (hk.mono (fun g hg => .inl hg)).setCell (.inl (.inr rfl)) v'
  obtain ⟨r1, r2, r3⟩ := h.rest hk3 (fun g hg => by rcases hg with h | h; exact hT g h; exact .inr h)
  refine ⟨r1, r2, set3_0 fo2, own_setCell hr (fun e => by have : B + 3 ≤ B := own_ge hr e; omega) _, hk3.own h.rW (fun g hg e => ?_), hk3.own h.rE (fun g hg e => ?_), r3, ?_⟩
  · rcases e with e | e
    · exact own_apart h.rW h.rO (by decide) hg e
    · have := own_ge h.rW hg; omega
  · rcases e with e | e
    · exact own_apart h.rE h.rO (by decide) hg e
    · have := own_ge h.rE hg; omega
  · obtain ⟨cur, hl, hc, hr'⟩ := h.s
    refine ⟨cur, hl, (hk3.block (B + 2) (by omega) (fun e => by rcases e with e | e; have := own_ge h.rO e; omega; omega)).trans hc, fun i hi => ?_⟩
    obtain ⟨g, c, h1, h2, h3⟩ := hr' i hi
    exact ⟨g, c, h1, hk3.own h2 (fun g' hg e => by
      rcases e with e | e
      · exact own_apart h2 h.rO (by decide) hg e
      · have := own_ge h2 hg; omega), h3⟩

/-- 'o.ends = append(o.ends, ..)' -/
theorem Inv.stepE (h : Inv d w B kO kW kE kM kS wr vO vW vE) {w2 : World} {v' : Value} (hk : Kept wr w2 (fun k => vE.ownBlock = some k)) (hr : w2.ownsRow (B + 3) 3 1 v' (kE + 1) (d.endV (kE + 1))) :
    Inv d w B kO kW (kE + 1) kM kS (w2.setCell ⟨B, 2, none⟩ v') vO vW v' := by
  have hs := h.size
  have hT : ∀ g, vE.ownBlock = some g → B + 3 ≤ g ∨ g = B := fun g hg => .inl (own_ge h.rE hg)
  have hB : ¬ (vE.ownBlock = some B) := fun e => by have := own_ge h.rE e; omega
  have fo2 := (hk.block B (by omega) hB).trans h.fo
  have hk3 : Kept wr (w2.setCell ⟨B, 2, none⟩ v') (fun k => vE.ownBlock = some k ∨ k = B) := (hk.mono (fun g hg => .inl hg)).setCell (.inl (.inr rfl)) v'
  obtain ⟨r1, r2, r3⟩ := h.rest hk3 (fun g hg => by rcases hg with h | h; exact hT g h; exact .inr h)
  refine ⟨r1, r2, set3_2 fo2, hk3.own h.rO (fun g hg e => ?_), hk3.own h.rW (fun g hg e => ?_), own_setCell hr (fun e => by have : B + 3 ≤ B := own_ge hr e; omega) _, r3, ?_⟩
  · rcases e with e | e
    · exact own_apart h.rO h.rE (by decide) hg e
    · have := own_ge h.rO hg; omega
  · rcases e with e | e
    · exact own_apart h.rW h.rE (by decide) hg e
    · have := own_ge h.rW hg; omega
  · obtain ⟨cur, hl, hc, hr'⟩ := h.s
    refine ⟨cur, hl, (hk3.block (B + 2) (by omega) (fun e => by rcases e with e | e; have := own_ge h.rE e; omega; omega)).trans hc, fun i hi => ?_⟩
    obtain ⟨g, c, h1, h2, h3⟩ := hr' i hi
    exact ⟨g, c, h1, hk3.own h2 (fun g' hg e => by
      rcases e with e | e
      · exact own_apart h2 h.rE (by decide) hg e
      · have := own_ge h2 hg; omega), h3⟩

/-- 'o.written = append(o.written, w...)' -/
theorem Inv.stepW (h : Inv d w B kO kW kE kM kS wr vO vW vE) {w2 : World} {v' : Value} (hk : Kept wr w2 (fun k => vW.ownBlock = some k)) (hr : w2.ownsRow (B + 3) 5 1 v' (d.st (kW + 1)) (bytesV (d.wrt (kW + 1)))) (hn : ∀ g, v'.ownBlock = some g → vW.ownBlock = some g ∨ wr.heap.size ≤ g) :
    Inv d w B kO (kW + 1) kE kM kS (w2.setCell ⟨B, 1, none⟩ v') vO v' vE := by
  have hs := h.size
  have hT : ∀ g, vW.ownBlock = some g → B + 3 ≤ g ∨ g = B := fun g hg => .inl (own_ge h.rW hg)
  have hB : ¬ (vW.ownBlock = some B) := fun e => by have := own_ge h.rW e; omega
  have fo2 := (hk.block B (by omega) hB).trans h.fo
  have hk3 : Kept wr (w2.setCell ⟨B, 1, none⟩ v') (fun k => vW.ownBlock = some k ∨ k = B) := (hk.mono (fun g hg => .inl hg)).setCell (.inl (.inr rfl)) v'
  obtain ⟨r1, r2, r3⟩ := h.rest hk3 (fun g hg => by rcases hg with h | h; exact hT g h; exact .inr h)
  refine ⟨r1, r2, set3_1 fo2, hk3.own h.rO (fun g hg e => ?_), own_setCell hr (fun e => by have : B + 3 ≤ B := own_ge hr e; omega) _, hk3.own h.rE (fun g hg e => ?_), r3, ?_⟩
  · rcases e with e | e
    · exact own_apart h.rO h.rW (by decide) hg e
    · have := own_ge h.rO hg; omega
  · rcases e with e | e
    · exact own_apart h.rE h.rW (by decide) hg e
    · have := own_ge h.rE hg; omega
  · obtain ⟨cur, hl, hc, hr'⟩ := h.s
    refine ⟨cur, hl, (hk3.block (B + 2) (by omega) (fun e => by rcases e with e | e; have := own_ge h.rW e; omega; omega)).trans hc, fun i hi => ?_⟩
    obtain ⟨g, c, h1, h2, h3⟩ := hr' i hi
    have hgl := (h2.lt g rfl).2
    exact ⟨g, c, h1, hk3.own h2 (fun g' hg e => by
      have hgg : g = g' := by simpa [Value.ownBlock] using hg
      rcases e with e | e
      · exact h3 (by rw [hgg]; exact e)
      · have := own_ge h2 hg; omega), fun e => by
        rcases hn g e with h' | h'
        · exact h3 h'
        · omega⟩

/-- 'ws[i] = w' -/
theorem Inv.stepS (h : Inv d w B kO kW kE kM kS wr vO vW vE) {g c : Nat} (hr : wr.ownsRow (B + 3) 5 1 (.slice (some ⟨g, 0, none⟩) (d.wl kS).length c) (d.wl kS).length (bytesV (d.wl kS))) (hne : vW.ownBlock ≠ some g) (hk : kS < d.n) :
    Inv d w B kO kW kE kM (kS + 1) (wr.setCell ⟨B + 2, kS, none⟩ (.slice (some ⟨g, 0, none⟩) (d.wl kS).length c)) vO vW vE := by
  have hs := h.size
  have hk3 : Kept wr (wr.setCell ⟨B + 2, kS, none⟩ (.slice (some ⟨g, 0, none⟩) (d.wl kS).length c)) (fun k => k = B + 2) := (Kept.refl wr (fun k => k = B + 2)).setCell (a := ⟨B + 2, kS, none⟩) (.inl rfl) _
  have own3 : ∀ {e : TypeId} {v : Value} {n : Nat} {xs : List Value}, wr.ownsRow (B + 3) e 1 v n xs → (wr.setCell ⟨B + 2, kS, none⟩ (.slice (some ⟨g, 0, none⟩) (d.wl kS).length c)).ownsRow (B + 3) e 1 v n xs := fun ho => hk3.own ho (fun g' hg e => by have := own_ge ho hg; omega)
  refine ⟨h.below.trans (hk3.below (by omega) (fun g hg => by omega)), by simpa [World.setCell] using h.size, (hk3.block B (by omega) (by omega)).trans h.fo, own3 h.rO, own3 h.rW, own3 h.rE, ?_, ?_⟩
  · obtain ⟨cnt, D, hc, hm, hd⟩ := h.m
    exact ⟨cnt, D, hc, hm.setCell (by show B + 1 ≠ B + 2; omega) _, hd⟩
  · obtain ⟨cur, hl, hc, hr'⟩ := h.s
    refine ⟨cur.set kS (.slice (some ⟨g, 0, none⟩) (d.wl kS).length c), by simpa using hl, ?_, fun i hi => ?_⟩
    · simp [World.setCell, Array.getElem?_modify, hc]
    · rcases Nat.lt_succ_iff_lt_or_eq.1 hi with h1 | rfl
      · obtain ⟨g', c', e1, e2, e3⟩ := hr' i h1
        exact ⟨g', c', by rw [List.getElem?_set_ne (by omega)]; exact e1, own3 e2, e3⟩
      · exact ⟨g, c, by rw [List.getElem?_set_self (by omega)], own3 hr, hne⟩

/-- 's[origin] = seq', or not. -/
theorem Inv.stepM (h : Inv d w B kO kW kE kM kS wr vO vW vE) {w2 : World} (hg : wr.grownBy w2 (some (B + 1))) {cnt : Nat} {D : DataW Unit} (hc : cnt ≤ kM + 1) (hm : w2.ownsMap Yba.prog 9 (plainElem (H := Unit) Yba.prog 33) (B + 1) cnt D) (hD : MSpec d (kM + 1) D) :
    Inv d w B kO kW kE (kM + 1) kS w2 vO vW vE := by
  have hs := h.size
  have hk3 : Kept wr w2 (fun k => k = B + 1) := (Kept.refl wr _).grown hg (fun g hg => by injection hg with hg; exact .inl hg.symm)
  have own3 : ∀ {e : TypeId} {v : Value} {n : Nat} {xs : List Value}, wr.ownsRow (B + 3) e 1 v n xs → w2.ownsRow (B + 3) e 1 v n xs := fun ho => hk3.own ho (fun g' hg e => by have := own_ge ho hg; omega)
  refine ⟨h.below.trans (hk3.below (by omega) (fun g hg => by omega)), Nat.le_trans h.size hk3.size, (hk3.block B (by omega) (by omega)).trans h.fo, own3 h.rO, own3 h.rW, own3 h.rE, ⟨cnt, D, hc, hm, hD⟩, ?_⟩
  obtain ⟨cur, hl, hc, hr'⟩ := h.s
  refine ⟨cur, hl, (hk3.block (B + 2) (by omega) (by omega)).trans hc, fun i hi => ?_⟩
  obtain ⟨g', c', e1, e2, e3⟩ := hr' i hi
  exact ⟨g', c', e1, own3 e2, e3⟩
end
end Go.Proofs.Ybulkbhfk
