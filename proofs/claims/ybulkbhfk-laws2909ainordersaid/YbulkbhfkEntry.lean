import Derived.Test.YbulkbhfkKept
namespace Go.Proofs.Ybulkbhfk
open Go.RowKit

/-- What the closure leaves: the bytes appended, one entry more in the log. -/
def EntryEnds (W : World) (base Bl nb nL : Nat) (vb vL : Value) (xb xL : List Value) (cs : List Value) (ol : List UInt8) (e : Ending) (W' : World) : Prop :=
  ∃ vb' vL', e = .returned vb' ∧ W'.ownsRow base 5 1 vb' (nb + (1 + ol.length + 1)) (xb ++ bytesV ([91] ++ ol ++ [93])) ∧ W'.heap[Bl]? = some (.cells #[vL'] 34 (0, 0)) ∧
    W'.ownsRow base 36 4 vL' (nL + 1) (xL ++ cs) ∧ Kept W W' (fun k => k = Bl ∨ vb.ownBlock = some k ∨ vL.ownBlock = some k) ∧
    (∀ g, vb'.ownBlock = some g → vb.ownBlock = some g ∨ W.heap.size ≤ g) ∧ (∀ g, vL'.ownBlock = some g → vL.ownBlock = some g ∨ W.heap.size ≤ g)

theorem own_new {w w' : World} {v v' : Value} {base : Nat} {e : TypeId} {size n : Nat} {xs : List Value} (h : Appended w base e size v n xs v' w') : ∀ g, v'.ownBlock = some g → v.ownBlock = some g ∨ w.heap.size ≤ g := fun g hg => by
  rcases h.2.2 with h1 | h1
  · left; rw [← h1]; exact hg
  · right; rw [h1] at hg; injection hg with hg; omega

theorem own_form {w : World} {base size n : Nat} {e : TypeId} {v : Value} {xs : List Value} (h : w.ownsRow base e size v n xs) (hn : 0 < n) : ∃ g cap, v = .slice (some ⟨g, 0, none⟩) n cap := by
  rcases h.2 with ⟨_, h0⟩ | ⟨g, cap, _, hv, _⟩
  · omega
  · exact ⟨g, cap, hv⟩
theorem own_setCell {w : World} {base size n : Nat} {e : TypeId} {v : Value} {xs : List Value} (h : w.ownsRow base e size v n xs) {a : Addr} (ha : v.ownBlock ≠ some a.block) (u : Value) : (w.setCell a u).ownsRow base e size v n xs :=
  ((Kept.refl w (fun k => k = a.block)).setCell (.inl rfl) u).own h (fun _ hg e => ha (by rw [hg, e]))
theorem one_block {w : World} {g : Nat} {v : Value} {t : TypeId} (h : w.heap[g]? = some (.cells #[v] t (0, 0))) : w.cell? ⟨g, 0, none⟩ = some v ∧ w.frozen? ⟨g, 0, none⟩ = false := by
  simp only [World.cell?, World.frozen?, h]; exact ⟨rfl, rfl⟩

theorem setCell_block {w : World} {g : Nat} {v u : Value} {t : TypeId} (h : w.heap[g]? = some (.cells #[v] t (0, 0))) : (w.setCell ⟨g, 0, none⟩ u).heap[g]? = some (.cells #[u] t (0, 0)) := by
  simp [World.setCell, Array.getElem?_modify, h]

set_option maxHeartbeats 1000000 in
theorem entry_any (W : World) (base Bl nb nL : Nat) (vb vL : Value) (ab : Option Addr) (nB cB : Nat) (xb xL : List Value) (gW off c : Nat) (ol : List UInt8) (sq : Int)
    (hb : W.ownsRow base 5 1 vb nb xb) (hLc : W.heap[Bl]? = some (.cells #[vL] 34 (0, 0))) (hL : W.ownsRow base 36 4 vL nL xL)
    (ho : ∀ j (hj : j < ol.length), W.cell? ⟨gW, off + j, none⟩ = some (.int .u8 (ol[j].toNat : Int))) (hgl : gW < W.heap.size) (hgW : gW ≠ Bl) (hgb : vb.ownBlock ≠ some gW) (hgL : vL.ownBlock ≠ some gW)
    (hnb : nb + ol.length + 2 ≤ 140737489403904) (hnL : nL ≤ 1000) (hbase : base ≤ W.heap.size) :
    Calls Yba.prog 4 #[vb, .slice ab nB cB, .slice (some ⟨gW, off, none⟩) ol.length c, .int .u64 sq, .pointer (some ⟨Bl, 0, none⟩)] W (EntryEnds W base Bl nb nL vb vL xb xL [.slice ab nB cB, .slice (some ⟨gW, off, none⟩) ol.length c, .bool ab.isNone, .int .u64 sq] ol) := by
  obtain ⟨hc, hf⟩ := one_block hLc
  have hB := lt_of_heap hLc
  -- the log's append
  obtain ⟨vL', W2, hrun1, happ1⟩ := app_log (W.alloc (.cells [.slice ab nB cB, .slice (some ⟨gW, off, none⟩) ol.length c, .bool ab.isNone, .int .u64 sq].toArray 36)) base vL nL xL (hL.alloc _) _ 1 _
    (src_new W 4 34 36 Yba.underlying34 [.slice ab nB cB, .slice (some ⟨gW, off, none⟩) ol.length c, .bool ab.isNone, .int .u64 sq] 36 1 rfl (by
      intro u hu
      simp at hu
      rcases hu with rfl | rfl | rfl | rfl
      · rfl
      · rfl
      · rfl
      · rfl)) (by omega) (by simp; omega)
  have K2 : Kept W W2 (fun k => k = Bl ∨ vb.ownBlock = some k ∨ vL.ownBlock = some k) := ((Kept.refl W _).alloc _).grown happ1.2.1 (fun g hg => .inl (.inr (.inr hg)))
  have hLnb : vL.ownBlock ≠ some Bl := own_not_block hL hLc (by decide)
  have hbnb : vb.ownBlock ≠ some Bl := own_not_block hb hLc (by decide)
  have hapart : ∀ g, vb.ownBlock = some g → vL.ownBlock ≠ some g := fun g hg => own_apart hb hL (by decide) hg
  have K2' : Kept W W2 (fun k => vL.ownBlock = some k) := ((Kept.refl W _).alloc _).grown happ1.2.1 (fun g hg => .inl hg)
  have hc2 : W2.cell? ⟨Bl, 0, none⟩ = some vL := (K2'.cell (p := ⟨Bl, 0, none⟩) hB hLnb).trans hc
  have hLc2 : W2.heap[Bl]? = some (.cells #[vL] 34 (0, 0)) := (K2'.block Bl hB hLnb).trans hLc
  have hf2 := (one_block hLc2).2
  obtain ⟨gL', capL, hform⟩ := own_form happ1.1 (by omega)
  subst hform
  -- the bytes' appends
  have hB2 : Bl < W2.heap.size := lt_of_heap hLc2
  have hLn2 : (Value.slice (some ⟨gL', 0, none⟩) (nL + 1) capL).ownBlock ≠ some Bl := own_not_block happ1.1 hLc2 (by decide)
  obtain ⟨W3, hW3⟩ : ∃ W3, W3 = W2.setCell ⟨Bl, 0, none⟩ (.slice (some ⟨gL', 0, none⟩) (nL + 1) capL) := ⟨_, rfl⟩
  have hb3 : W3.ownsRow base 5 1 vb nb xb := by
    rw [hW3]; exact own_setCell (K2'.own hb hapart) hbnb _
  have hL3 : W3.ownsRow base 36 4 (.slice (some ⟨gL', 0, none⟩) (nL + 1) capL) (nL + 1) (xL ++ [.slice ab nB cB, .slice (some ⟨gW, off, none⟩) ol.length c, .bool ab.isNone, .int .u64 sq]) := by
    rw [hW3]; exact own_setCell happ1.1 hLn2 _
  have hLc3 : W3.heap[Bl]? = some (.cells #[.slice (some ⟨gL', 0, none⟩) (nL + 1) capL] 34 (0, 0)) := by rw [hW3]; exact setCell_block hLc2
  have K3 : Kept W W3 (fun k => k = Bl ∨ vb.ownBlock = some k ∨ vL.ownBlock = some k) := by rw [hW3]; exact K2.setCell (.inl (.inl rfl)) _
  have hsz3 := K3.size
  -- '['
  obtain ⟨v1, W4, hrun2, happ2⟩ := app_bytes (W3.alloc (.cells [.int .u8 91].toArray 5)) base 25 vb nb xb (hb3.alloc _) _ 1 _ (src_new W3 1 25 5 Yba.underlying25 [.int .u8 91] 5 1 rfl (by intro u hu; simp at hu; subst hu; rfl)) (by omega) (by simp; omega)
  have K4 : Kept W3 W4 (fun k => vb.ownBlock = some k) := ((Kept.refl W3 _).alloc _).grown happ2.2.1 (fun g hg => .inl hg)
  have n1 : ∀ g, v1.ownBlock = some g → vb.ownBlock = some g ∨ W3.heap.size ≤ g := fun g hg => by
    rcases own_new happ2 g hg with h | h
    · exact .inl h
    · right; simp at h; omega
  have ho4 : ∀ j (hj : j < ol.length), W4.cell? ⟨gW, off + j, none⟩ = some (.int .u8 (ol[j].toNat : Int)) := fun j hj => by
    rw [K4.cell (p := ⟨gW, off + j, none⟩) (by show gW < _; omega) hgb, K3.cell (p := ⟨gW, off + j, none⟩) hgl (fun h => by rcases h with h | h | h; exact hgW h; exact hgb h; exact hgL h)]; exact ho j hj
  -- origin
  obtain ⟨v2, W5, hrun3, happ3⟩ := app_bytes W4 base 25 v1 (nb + 1) _ happ2.1 _ _ _ (src_bs W4 gW off c ol ho4) (by omega) (by have := K4.size; omega)
  have K5 : Kept W3 W5 (fun k => vb.ownBlock = some k) := K4.grown happ3.2.1 n1
  have n2 : ∀ g, v2.ownBlock = some g → vb.ownBlock = some g ∨ W3.heap.size ≤ g := fun g hg => by
    rcases own_new happ3 g hg with h | h
    · exact n1 g h
    · right; have := K4.size; omega
  -- ']'
  obtain ⟨v3, W6, hrun4, happ4⟩ := app_bytes (W5.alloc (.cells [.int .u8 93].toArray 5)) base 25 v2 (nb + 1 + ol.length) _ (happ3.1.alloc _) _ 1 _ (src_new W5 1 25 5 Yba.underlying25 [.int .u8 93] 5 1 rfl (by intro u hu; simp at hu; subst hu; rfl)) (by omega) (by simp; have := K5.size; omega)
  have K6 : Kept W3 W6 (fun k => vb.ownBlock = some k) := (K5.alloc _).grown happ4.2.1 n2
  have n3 : ∀ g, v3.ownBlock = some g → vb.ownBlock = some g ∨ W3.heap.size ≤ g := fun g hg => by
    rcases own_new happ4 g hg with h | h
    · exact n2 g h
    · right; simp at h; have := K5.size; omega
  have hB3 : Bl < W3.heap.size := lt_of_heap hLc3
  have FIN : Hid (EntryEnds W base Bl nb nL vb vL xb xL [.slice ab nB cB, .slice (some ⟨gW, off, none⟩) ol.length c, .bool ab.isNone, .int .u64 sq] ol (.returned v3) W6) := by
    refine ⟨v3, _, rfl, ?_, (K6.block Bl hB3 hbnb).trans hLc3, K6.own hL3 (fun g hg => own_apart hL3 hb3 (by decide) hg), K3.trans K6 (fun g hg => .inl (.inr (.inl hg))), fun g hg => ?_, fun g hg => ?_⟩
    · have := happ4.1
      rw [show nb + 1 + ol.length + 1 = nb + (1 + ol.length + 1) from by omega, show xb ++ [Value.int IntKind.u8 91] ++ bytesV ol ++ [Value.int IntKind.u8 93] = xb ++ bytesV ([91] ++ ol ++ [93]) from by simp [bytesV]] at this
      exact this
    · rcases n3 g hg with h | h
      · exact .inl h
      · right; omega
    · rcases own_new happ1 g hg with h | h
      · exact .inl h
      · right; simp at h; omega
  have HR1 := hide hrun1
  have HR2 := hide hrun2
  have HR3 := hide hrun3
  have HR4 := hide hrun4
  have HW3 := hide hW3
  clear hrun1 hrun2 hrun3 hrun4 happ1 happ2 happ3 happ4 K2 K2' K3 K4 K5 K6 n1 n2 n3 hL3 hLc3 hb3 hapart ho ho4 hb hL hLc hLc2 hW3 hLnb hbnb hLn2 hgL hgb
  have hnil := fun (a : Option Addr) (n c : Nat) (w : World) => Lib.run_eql_slice_nil (P := Yba.prog) w 25 5 a n c 0 0 Yba.underlying25
  go_enter Yba.func4, Yba.ntmps4
  go_upto_region 2 with (at_builtin; refine wpList_append_run rfl (.tmp 10) (.tmp 17) 34 34 34 rfl rfl _ _ rfl rfl _ _ HR1.out ?_)
  rw [← HW3.out]
  clear HW3
  go_wp2_with (first
    | (at_builtin; refine wpList_append_run rfl (.tmp 19) (.tmp 20) 25 25 25 rfl rfl _ _ rfl rfl _ _ HR2.out ?_)
    | (at_builtin; refine wpList_append_run rfl (.tmp 22) (.tmp 23) 25 25 25 rfl rfl _ _ rfl rfl _ _ HR3.out ?_)
    | (at_builtin; refine wpList_append_run rfl (.tmp 25) (.tmp 26) 25 25 25 rfl rfl _ _ rfl rfl _ _ HR4.out ?_))
  go_ret
  exact FIN.out
end Go.Proofs.Ybulkbhfk
