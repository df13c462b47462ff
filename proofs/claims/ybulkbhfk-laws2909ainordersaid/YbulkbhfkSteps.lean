import Derived.Test.YbulkbhfkSpec
namespace Go.Proofs.Ybulkbhfk
open Go.RowKit Go.Maps

/-- An append whose run is known, at a step of a region that draws its order. -/
theorem step_append_run {P : Program} {ops : Array Oper} {w : World} {o : Oper} {a : Act} {K : Act → World → Prop} {Q : Exit → Act → World → Prop} {E : Prop} (hgd : o.guard = none) (d s : Operand) (dT sT ty : TypeId)
    (ho : o.op = .call { callee := .builtin .append, args := #[d, s], argTypes := #[dT, sT] }) (hty : o.type = ty) (x y : Value) (hd : a.eval d = x) (hs : a.eval s = y) (v : Value) (w' : World)
    (hrun : (Builtin.append_ #[dT, sT] ty #[x, y]).run P w = .ok v w') (h : K (a.put o.dst v) w') : if Region.wanted o (yielded ops a.tmps) = true then Oper.wp P o a w K Q else E := by
  have hw : Region.wanted o (yielded ops a.tmps) = true := by simp [Region.wanted, hgd]
  rw [if_pos hw]
  subst hty
  unfold Oper.wp
  simp [execOp, ho, resolve, invoke, builtin, hd, hs, hrun, Result.andThen]
  exact h

section
variable {d : Data} {w : World} {B k : Nat} {wr : World} {vO vW vE : Value}
theorem three_free {w : World} {g : Nat} {a b c : Value} {t : TypeId} (h : w.heap[g]? = some (.cells #[a, b, c] t (0, 0))) (j : Nat) : w.frozen? ⟨g, j, none⟩ = false := by
  simp only [World.frozen?, h]; simp

theorem do_orgs (hk : k < 256) (h : Inv d w B k k k k k wr vO vW vE) : ∃ g c w2, (Builtin.append_ #[22, 22] 22 #[vO, .slice (some ⟨wr.heap.size, 0, none⟩) 1 1]).run Yba.prog (wr.alloc (.cells #[.string (d.org k)] 9)) = .ok (.slice (some ⟨g, 0, none⟩) (k + 1) c) w2 ∧
    w2.cell? ⟨B, 0, none⟩ = some vO ∧ w2.frozen? ⟨B, 0, none⟩ = false ∧ Inv d w B (k + 1) k k k k (w2.setCell ⟨B, 0, none⟩ (.slice (some ⟨g, 0, none⟩) (k + 1) c)) (.slice (some ⟨g, 0, none⟩) (k + 1) c) vW vE := by
  have hs := h.size
  obtain ⟨v', w2, hrun, happ⟩ := app_strs (wr.alloc (.cells [.string (d.org k)].toArray 9)) (B + 3) vO k (d.orgV k) (h.rO.alloc _) _ 1 _ (src_new wr 1 22 9 Yba.underlying22 [.string (d.org k)] 9 1 rfl (by intro u hu; simp at hu; subst hu; rfl)) (by omega) (by simp; omega)
  have K2 : Kept wr w2 (fun k => vO.ownBlock = some k) := ((Kept.refl wr _).alloc _).grown happ.2.1 (fun g hg => .inl hg)
  have fo2 := (K2.block B (by omega) (fun e => by have := own_ge h.rO e; omega)).trans h.fo
  obtain ⟨g, c, hf⟩ := own_form happ.1 (by omega)
  subst hf
  exact ⟨g, c, w2, hrun, (three_cells fo2).1, three_free fo2 0, h.stepO K2 happ.1⟩

theorem do_w (hd : d.Good) (hkn : k < d.n) (hwl : d.wl k = 60 :: ((d.org k).data.toList ++ [62])) {kO kW kE kM kS : Nat} (h : Inv d w B kO kW kE kM kS wr vO vW vE) : ∃ v1 w3 g c w4,
    (Builtin.append_ #[25, 9] 25 #[.slice (some ⟨wr.heap.size, 0, none⟩) 1 1, .string (d.org k)]).run Yba.prog (wr.alloc (.cells #[.int .u8 60] 5)) = .ok v1 w3 ∧
    (Builtin.append_ #[25, 25] 25 #[v1, .slice (some ⟨w3.heap.size, 0, none⟩) 1 1]).run Yba.prog (w3.alloc (.cells #[.int .u8 62] 5)) = .ok (.slice (some ⟨g, 0, none⟩) (d.wl k).length c) w4 ∧
    Inv d w B kO kW kE kM kS w4 vO vW vE ∧ w4.ownsRow (B + 3) 5 1 (.slice (some ⟨g, 0, none⟩) (d.wl k).length c) (d.wl k).length (bytesV (d.wl k)) ∧ vW.ownBlock ≠ some g := by
  have hs := h.size
  have hom := hd.orgM k hkn
  have r0 : (wr.alloc (.cells #[.int .u8 60] 5)).ownsRow (B + 3) 5 1 (.slice (some ⟨wr.heap.size, 0, none⟩) 1 1) 1 [.int .u8 60] := World.ownsRow_lit wr #[.int .u8 60] 1 h.size (by decide) rfl
  obtain ⟨v1, w3, hrun1, happ1⟩ := app_bytes (wr.alloc (.cells #[.int .u8 60] 5)) (B + 3) 9 _ 1 _ r0 _ _ _ (Src.ofString (P := Yba.prog) _ Yba.underlying9 (d.org k)) (by omega) (by simp; omega)
  have K3 : Kept wr w3 (fun _ => False) := ((Kept.refl wr _).alloc _).grown happ1.2.1 (fun g hg => .inr (by simp [Value.ownBlock] at hg; omega))
  have n1 : ∀ g, v1.ownBlock = some g → wr.heap.size ≤ g := fun g hg => by
    rcases own_new happ1 g hg with e | e
    · simp [Value.ownBlock] at e; omega
    · simp at e; omega
  obtain ⟨v2, w4, hrun2, happ2⟩ := app_bytes (w3.alloc (.cells [.int .u8 62].toArray 5)) (B + 3) 25 v1 _ _ (happ1.1.alloc _) _ 1 _ (src_new w3 1 25 5 Yba.underlying25 [.int .u8 62] 5 1 rfl (by intro u hu; simp at hu; subst hu; rfl)) (by omega) (by simp; have := K3.size; omega)
  have K4 : Kept wr w4 (fun _ => False) := (K3.alloc _).grown happ2.2.1 (fun g hg => .inr (n1 g hg))
  have hlen : 1 + (d.org k).size + 1 = (d.wl k).length := by rw [hwl]; simp; omega
  have hbytes : [Value.int .u8 60] ++ byteCells (d.org k) ++ [.int .u8 62] = bytesV (d.wl k) := by rw [hwl]; simp [bytesV, byteCells]
  have happ := happ2.1
  rw [hlen, hbytes] at happ
  obtain ⟨g, c, hf⟩ := own_form happ (by have := hd.wlP k; omega)
  subst hf
  refine ⟨v1, w3, g, c, w4, hrun1, hrun2, h.kept K4, happ, fun e => ?_⟩
  have h1 := (h.rW.lt g e).2
  rcases own_new happ2 g rfl with e' | e'
  · have := n1 g e'; omega
  · simp at e'; have := K3.size; omega

theorem do_ws (hkn : k < d.n) {kO kW kE kM : Nat} (h : Inv d w B kO kW kE kM k wr vO vW vE) : (∃ u, wr.cell? ⟨B + 1 + 1, k, none⟩ = some u) ∧ wr.frozen? ⟨B + 1 + 1, k, none⟩ = false := by
  obtain ⟨cur, hl, hc, _⟩ := h.s
  have hc' : wr.heap[B + 1 + 1]? = some (.cells cur.toArray 25 (0, 0)) := hc
  have hk : k < cur.length := by omega
  refine ⟨⟨cur[k], ?_⟩, ?_⟩
  · simp only [World.cell?, hc']; simp [hk]
  · simp only [World.frozen?, hc']; simp

theorem do_written (hd : d.Good) (hkn : k < d.n) {kO kE kM kS g c : Nat} (h : Inv d w B kO k kE kM kS wr vO vW vE) (hr : wr.ownsRow (B + 3) 5 1 (.slice (some ⟨g, 0, none⟩) (d.wl k).length c) (d.wl k).length (bytesV (d.wl k))) :
    ∃ g' c' w2, (Builtin.append_ #[25, 25] 25 #[vW, .slice (some ⟨g, 0, none⟩) (d.wl k).length c]).run Yba.prog wr = .ok (.slice (some ⟨g', 0, none⟩) (d.st (k + 1)) c') w2 ∧ w2.cell? ⟨B, 1, none⟩ = some vW ∧ w2.frozen? ⟨B, 1, none⟩ = false ∧
      Inv d w B kO (k + 1) kE kM kS (w2.setCell ⟨B, 1, none⟩ (.slice (some ⟨g', 0, none⟩) (d.st (k + 1)) c')) vO (.slice (some ⟨g', 0, none⟩) (d.st (k + 1)) c') vE := by
  have hs := h.size
  have hst := hd.stS k
  have hwm := hd.wlM k hkn
  have hn := hd.n256
  have hsm := hd.st_le k (by omega)
  obtain ⟨v', w2, hrun, happ⟩ := app_bytes wr (B + 3) 25 vW (d.st k) _ h.rW _ _ _ (src_bs wr g 0 c (d.wl k) (fun j hj => own_cell hr rfl _ _ (by rw [Nat.zero_add, bytesV_get hj]))) (by omega) (by omega)
  have K2 : Kept wr w2 (fun k => vW.ownBlock = some k) := (Kept.refl wr _).grown happ.2.1 (fun g hg => .inl hg)
  have fo2 := (K2.block B (by omega) (fun e => by have := own_ge h.rW e; omega)).trans h.fo
  have happ1 := happ.1
  rw [← hst, ← bytesV_append] at happ1
  obtain ⟨g', c', hf⟩ := own_form happ1 (by have := hd.wlP k; omega)
  subst hf
  exact ⟨g', c', w2, hrun, (three_cells fo2).2.1, three_free fo2 1, h.stepW K2 happ1 (own_new happ)⟩

theorem do_ends (hd : d.Good) (hkn : k < d.n) {kO kW kM kS : Nat} (h : Inv d w B kO kW k kM kS wr vO vW vE) :
    ∃ g' c' w2, (Builtin.append_ #[27, 27] 27 #[vE, .slice (some ⟨wr.heap.size, 0, none⟩) 1 1]).run Yba.prog (wr.alloc (.cells #[.int .i64 (d.st (k + 1))] 3)) = .ok (.slice (some ⟨g', 0, none⟩) (k + 1) c') w2 ∧ w2.cell? ⟨B, 2, none⟩ = some vE ∧ w2.frozen? ⟨B, 2, none⟩ = false ∧ w2.cell? ⟨B, 1, none⟩ = some vW ∧
      Inv d w B kO kW (k + 1) kM kS (w2.setCell ⟨B, 2, none⟩ (.slice (some ⟨g', 0, none⟩) (k + 1) c')) vO vW (.slice (some ⟨g', 0, none⟩) (k + 1) c') := by
  have hs := h.size
  have hn := hd.n256
  obtain ⟨v', w2, hrun, happ⟩ := app_ints (wr.alloc (.cells [.int .i64 (d.st (k + 1))].toArray 3)) (B + 3) vE k (d.endV k) (h.rE.alloc _) _ 1 _ (src_new wr 1 27 3 Yba.underlying27 [.int .i64 (d.st (k + 1))] 3 1 rfl (by intro u hu; simp at hu; subst hu; rfl)) (by omega) (by simp; omega)
  have K2 : Kept wr w2 (fun k => vE.ownBlock = some k) := ((Kept.refl wr _).alloc _).grown happ.2.1 (fun g hg => .inl hg)
  have fo2 := (K2.block B (by omega) (fun e => by have := own_ge h.rE e; omega)).trans h.fo
  obtain ⟨g', c', hf⟩ := own_form happ.1 (by omega)
  subst hf
  exact ⟨g', c', w2, hrun, (three_cells fo2).2.2, three_free fo2 2, (three_cells fo2).2.1, h.stepE K2 happ.1⟩
end

theorem inv_start (d : Data) (w : World) (C : List Value) (hC : C.length = d.n) (hst : d.st 0 = 0) :
    Inv d w w.heap.size 0 0 0 0 0 (((w.alloc (.cells #[.slice none 0 0, .slice none 0 0, .slice none 0 0] 29)).alloc (.map #[] 0)).alloc (.cells C.toArray 25)) (.slice none 0 0) (.slice none 0 0) (.slice none 0 0) := by
  have e1 : (w.alloc (.cells #[.slice none 0 0, .slice none 0 0, .slice none 0 0] 29)).heap.size = w.heap.size + 1 := by simp
  have e2 : ((w.alloc (.cells #[.slice none 0 0, .slice none 0 0, .slice none 0 0] 29)).alloc (.map #[] 0)).heap.size = w.heap.size + 2 := by simp
  refine ⟨((((Below.refl _ w).alloc (Nat.le_refl _) _).alloc (by rw [e1]; omega) _).alloc (by rw [e2]; omega) _), by simp, ?_, World.ownsRow_nil _ _ _ _, by rw [hst]; exact World.ownsRow_nil _ _ _ _, World.ownsRow_nil _ _ _ _, ⟨0, .map [], Nat.le_refl _, ?_, mspec_nil d⟩, ⟨C, hC, ?_, fun i h => absurd h (Nat.not_lt_zero _)⟩⟩
  · rw [Below.heap_alloc _ _ _ (by omega), Below.heap_alloc _ _ _ (by omega)]; exact heap_alloc_new w _
  · have := (World.ownsMap_made (w.alloc (.cells #[.slice none 0 0, .slice none 0 0, .slice none 0 0] 29)) Yba.prog 9 (plainElem (H := Unit) Yba.prog 33)).alloc (.cells C.toArray 25)
    rw [e1] at this
    exact this
  · have := heap_alloc_new ((w.alloc (.cells #[.slice none 0 0, .slice none 0 0, .slice none 0 0] 29)).alloc (.map #[] 0)) (.cells C.toArray 25)
    rw [e2] at this
    exact this
end Go.Proofs.Ybulkbhfk
