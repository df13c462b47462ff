import Derived.Test.YbulkbhfkBuild
namespace Go.Proofs.Ybulkbhfk
open Go.RowKit Go.Maps

theorem mspec_skip {d : Data} {k : Nat} {D : DataW Unit} (h : MSpec d k D) (hk : d.ok k = false) : MSpec d (k + 1) D := fun i hi => by
  obtain ⟨h1, h2⟩ := h i hi
  refine ⟨?_, fun hlt hok => ?_⟩
  · rw [h1]
    by_cases e : i = k
    · subst e; simp [hk]
    · congr 1; rw [decide_eq_decide]; omega
  · by_cases e : i = k
    · subst e; rw [hk] at hok; cases hok
    · exact h2 (by omega) hok
theorem key_lit (d : Data) (i : Nat) : WideAt.IsKeyLit (d.key i) := by unfold Data.key; exact trivial
theorem mspec_put {d : Data} {k : Nat} {D : DataW Unit} (h : MSpec d k D) (hm : IsMap D) (hk : k < d.n) (hok : d.ok k = true) (hkd : ∀ i j, i < d.n → j < d.n → i ≠ j → d.key i ≠ d.key j) : MSpec d (k + 1) (D.put (d.key k) (.lit (.int .u64 (d.sq k)))) := fun i hi => by
  obtain ⟨h1, h2⟩ := h i hi
  by_cases e : i = k
  · subst e
    refine ⟨?_, fun _ _ => atKey_put_same hm (key_lit d i) _ _⟩
    rw [has_put_same hm (key_lit d i)]; simp [hok]
  · refine ⟨?_, fun hlt hok' => ?_⟩
    · rw [has_put_other (hkd i k hi hk e), h1]; congr 1; rw [decide_eq_decide]; omega
    · rw [atKey_put_other (hkd i k hi hk e)]; exact h2 (by omega) hok'
theorem mspec_nil (d : Data) : MSpec d 0 (.map []) := fun i _ => ⟨by simp [Maps.has], fun h => absurd h (Nat.not_lt_zero _)⟩

theorem own_any {w : World} {base size n : Nat} {e : TypeId} {v : Value} {xs : List Value} (h : w.ownsRow base e size v n xs) : ∃ g c, n ≤ c ∧ (∃ a, v = .slice a n c ∧ (0 < n → a = some ⟨g, 0, none⟩)) ∧ (0 < n → v.ownBlock = some g) := by
  rcases h.2 with ⟨rfl, rfl⟩ | ⟨g, cap, _, rfl, _, _, hc, _⟩
  · exact ⟨0, 0, Nat.le_refl _, ⟨none, rfl, fun h => absurd h (Nat.lt_irrefl _)⟩, fun h => absurd h (Nat.lt_irrefl _)⟩
  · exact ⟨g, cap, hc, ⟨_, rfl, fun _ => rfl⟩, fun _ => rfl⟩
theorem own_cell {w : World} {base n g : Nat} {e : TypeId} {v : Value} {xs : List Value} (h : w.ownsRow base e 1 v n xs) (hg : v.ownBlock = some g) (j : Nat) (u : Value) (hj : xs[j]? = some u) : w.cell? ⟨g, j, none⟩ = some u := by
  have := h.cells hg j u hj
  rwa [Addr.add_mid, Nat.zero_add] at this

/-- All laid: the status and the order stand. -/
theorem Inv.stat {d : Data} {w : World} {B : Nat} {wr : World} {vO vW vE : Value} (hd : d.Good) (h : Inv d w B d.n d.n d.n d.n d.n wr vO vW vE) :
    ∃ gO gW gE cO cW cE, Stat d wr B (B + 1) gO gW gE cO cW cE vO vW vE ∧ (0 < d.n → vO.ownBlock = some gO ∧ vW.ownBlock = some gW ∧ vE.ownBlock = some gE) := by
  have hs := h.size
  obtain ⟨gO, cO, _, fO, bO⟩ := own_any h.rO
  obtain ⟨gW, cW, hcW, fW, bW⟩ := own_any h.rW
  obtain ⟨gE, cE, _, fE, bE⟩ := own_any h.rE
  have hst : 0 < d.n → 0 < d.st d.n := fun h0 => by
    have := hd.st_mono d.n 1 h0
    have := hd.stS 0
    have := hd.wlP 0
    rw [Nat.zero_add] at *
    omega
  have bW' : 0 < d.n → vW.ownBlock = some gW := fun h0 => bW (hst h0)
  refine ⟨gO, gW, gE, cO, cW, cE, ⟨h.fo, fO, ?_, fE, fun i hi => own_cell h.rO (bO (by omega)) i _ (d.orgV_get _ _ hi), fun i hi j hj => ?_, fun i hi => own_cell h.rE (bE (by omega)) i _ (d.endV_get _ _ hi), hcW, ?_, ⟨by omega, by omega, fun h0 => ⟨(h.rO.lt gO (bO h0)).2, (h.rW.lt gW (bW' h0)).2, (h.rE.lt gE (bE h0)).2⟩⟩⟩, fun h0 => ⟨bO h0, bW' h0, bE h0⟩⟩
  · obtain ⟨a, e1, e2⟩ := fW
    exact ⟨a, e1, fun h0 => e2 (hst h0)⟩
  · refine own_cell h.rW (bW' (by omega)) _ _ ?_
    rw [bytesV, List.getElem?_map, d.wrt_get hd _ _ hi j hj]; rfl
  · obtain ⟨cnt, D, _, hm, hD⟩ := h.m
    exact ⟨cnt, D, hm, fun i hi => ⟨by rw [(hD i hi).1]; simp [hi], (hD i hi).2 hi⟩⟩

/-- A slice that came in: its cells. -/
def Cells (w : World) (a : Option Addr) (n : Nat) (f : Nat → Value) : Prop := 0 < n → ∃ g o, a = some ⟨g, o, none⟩ ∧ g < w.heap.size ∧ ∀ i, i < n → w.cell? ⟨g, o + i, none⟩ = some (f i)

/-- The data of a call of the law. -/
def mkData (n : Nat) (nm : Nat → ByteArray) (l1 : Nat) (mb : Nat → Bool) (l2 : Nat) (sv : Nat → Int) : Data where
  n := n
  org i := ⟨#[i.toUInt8]⟩ ++ nm i
  wl i := 60 :: ((i.toUInt8 :: (nm i).data.toList) ++ [62])
  st k := ((List.range k).map fun i => (nm i).size + 3).sum
  ok i := !(decide (i < l1) && mb i)
  sq i := if i < l2 then sv i else 0

theorem mk_org (n : Nat) (nm : Nat → ByteArray) (l1 : Nat) (mb : Nat → Bool) (l2 : Nat) (sv : Nat → Int) (i : Nat) : ((mkData n nm l1 mb l2 sv).org i).data.toList = i.toUInt8 :: (nm i).data.toList := by
  simp [mkData, ByteArray.data_append]
theorem mk_good (n : Nat) (nm : Nat → ByteArray) (l1 : Nat) (mb : Nat → Bool) (l2 : Nat) (sv : Nat → Int) (hn : n ≤ 256) (hnm : ∀ i, i < n → (nm i).size ≤ 1024) : (mkData n nm l1 mb l2 sv).Good := by
  have hwl : ∀ i, ((mkData n nm l1 mb l2 sv).wl i).length = (nm i).size + 3 := fun i => by simp [mkData]
  refine ⟨hn, rfl, fun i => ?_, fun i => by rw [hwl]; omega, fun i hi => by rw [hwl]; have := hnm i hi; omega, fun i hi => ?_⟩
  · rw [hwl]; simp [mkData, List.range_succ]
  · have := hnm i hi
    have h := congrArg List.length (mk_org n nm l1 mb l2 sv i)
    simp at h
    rw [h]; omega
theorem mk_keys (n : Nat) (nm : Nat → ByteArray) (l1 : Nat) (mb : Nat → Bool) (l2 : Nat) (sv : Nat → Int) (hn : n ≤ 256) : ∀ i j, i < n → j < n → i ≠ j → (mkData n nm l1 mb l2 sv).key i ≠ (mkData n nm l1 mb l2 sv).key j := fun i j hi hj hne he => by
  unfold Data.key at he
  injection he with he
  rw [mk_org, mk_org] at he
  injection he with he _
  have h1 : i.toUInt8.toNat = i := by simp; omega
  have h2 : j.toUInt8.toNat = j := by simp; omega
  exact hne (by rw [← h1, he, h2])
end Go.Proofs.Ybulkbhfk
