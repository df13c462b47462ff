import Derived.Test.YbulkbhfkEntry
import Derived.Maps.OwnSet
import Derived.Maps.OwnOps
namespace Go.Proofs.Ybulkbhfk
open Go.RowKit Go.Maps

theorem law : Keyed Yba.prog 9 := string_keyed Yba.underlying9
theorem zeroE (w : World) : (zeroValue 33).run Yba.prog w = .ok (.int .u64 0) w := by kernel_rfl

/-- What is known of the n origins: as strings, as bytes between '<' and '>', where each begins in 'written'; which of them the status holds, and with which number. -/
structure Data where
  n : Nat
  org : Nat → ByteArray
  wl : Nat → List UInt8
  st : Nat → Nat
  ok : Nat → Bool
  sq : Nat → Int
/-- The closed datum of an origin as a key. -/
def Data.key (d : Data) (i : Nat) : Lit := .string (d.org i).data.toList
structure Data.Good (d : Data) : Prop where
  n256 : d.n ≤ 256
  st0 : d.st 0 = 0
  stS : ∀ i, d.st (i + 1) = d.st i + (d.wl i).length
  wlP : ∀ i, 0 < (d.wl i).length
  wlM : ∀ i, i < d.n → (d.wl i).length ≤ 2000
  orgM : ∀ i, i < d.n → (d.org i).size ≤ 2000
theorem Data.Good.st_le {d : Data} (h : d.Good) (k : Nat) (hk : k ≤ d.n) : d.st k ≤ k * 2000 := by
  induction k with
  | zero => have := h.st0; omega
  | succ k ih => have := ih (by omega); have := h.wlM k (by omega); have := h.stS k; omega
theorem Data.Good.st_mono {d : Data} (h : d.Good) (j k : Nat) (hk : k ≤ j) : d.st k ≤ d.st j := by
  induction hk with
  | refl => exact Nat.le_refl _
  | step _ ih => rename_i m _; have := h.stS m; rw [Nat.succ_eq_add_one]; omega

/-- The status, the origins, what is written: they stand still while the entries are written. -/
structure Stat (d : Data) (W : World) (Bo Bm gO gW gE cO cW cE : Nat) (vO vW vE : Value) : Prop where
  fo : W.heap[Bo]? = some (.cells #[vO, vW, vE] 29 (0, 0))
  fO : ∃ a, vO = .slice a d.n cO ∧ (0 < d.n → a = some ⟨gO, 0, none⟩)
  fW : ∃ a, vW = .slice a (d.st d.n) cW ∧ (0 < d.n → a = some ⟨gW, 0, none⟩)
  fE : ∃ a, vE = .slice a d.n cE ∧ (0 < d.n → a = some ⟨gE, 0, none⟩)
  xO : ∀ i, i < d.n → W.cell? ⟨gO, i, none⟩ = some (.string (d.org i))
  xW : ∀ i, i < d.n → ∀ j (hj : j < (d.wl i).length), W.cell? ⟨gW, d.st i + j, none⟩ = some (.int .u8 ((d.wl i)[j].toNat : Int))
  xE : ∀ i, i < d.n → W.cell? ⟨gE, i, none⟩ = some (.int .i64 (d.st (i + 1)))
  capW : d.st d.n ≤ cW
  map : ∃ cnt D, W.ownsMap Yba.prog 9 (plainElem (H := Unit) Yba.prog 33) Bm cnt D ∧ ∀ i, i < d.n → Maps.has D (d.key i) = d.ok i ∧ (d.ok i = true → D.atKey (d.key i) (.lit (.int .u64 0)) = .lit (.int .u64 (d.sq i)))
  lt : Bo < W.heap.size ∧ Bm < W.heap.size ∧ (0 < d.n → gO < W.heap.size ∧ gW < W.heap.size ∧ gE < W.heap.size)

theorem Stat.kept {d : Data} {W W' : World} {Bo Bm gO gW gE cO cW cE : Nat} {vO vW vE : Value} {T : Nat → Prop} (h : Stat d W Bo Bm gO gW gE cO cW cE vO vW vE) (k : Kept W W' T) (nB : ¬ T Bo) (nM : ¬ T Bm) (nr : 0 < d.n → ¬ T gO ∧ ¬ T gW ∧ ¬ T gE) :
    Stat d W' Bo Bm gO gW gE cO cW cE vO vW vE := by
  obtain ⟨l1, l2, l3⟩ := h.lt
  have hs := k.size
  refine ⟨(k.block Bo l1 nB).trans h.fo, h.fO, h.fW, h.fE, fun i hi => ?_, fun i hi j hj => ?_, fun i hi => ?_, h.capW, ?_, ⟨by omega, by omega, fun h0 => by have := l3 h0; omega⟩⟩
  · rw [k.cell (p := ⟨gO, i, none⟩) (l3 (by omega)).1 (nr (by omega)).1]; exact h.xO i hi
  · rw [k.cell (p := ⟨gW, d.st i + j, none⟩) (l3 (by omega)).2.1 (nr (by omega)).2.1]; exact h.xW i hi j hj
  · rw [k.cell (p := ⟨gE, i, none⟩) (l3 (by omega)).2.2 (nr (by omega)).2.2]; exact h.xE i hi
  · obtain ⟨cnt, D, hm, hd⟩ := h.map
    refine ⟨cnt, D, ?_, hd⟩
    obtain ⟨es, clock, hh, r⟩ := hm
    exact ⟨es, clock, (k.block Bm l2 nM).trans hh, r⟩

/-- Origin i as it stands in 'written'. -/
def Data.slot (d : Data) (gW cW i : Nat) : Value := .slice (some ⟨gW, d.st i, none⟩) (d.wl i).length (cW - d.st i)
def Data.bef (d : Data) (gW cW : Nat) : Nat → Value
  | 0 => .slice none 0 0
  | i + 1 => d.slot gW cW i
def Data.befA (d : Data) (gW : Nat) : Nat → Option Addr
  | 0 => none
  | i + 1 => some ⟨gW, d.st i, none⟩
/-- The cells of entry i in the log. -/
def Data.entry (d : Data) (gW cW i : Nat) : List Value := [d.bef gW cW i, d.slot gW cW i, .bool (d.befA gW i).isNone, .int .u64 (d.sq i)]
def Data.logs (d : Data) (gW cW : Nat) : Nat → List Value
  | 0 => []
  | k + 1 => d.logs gW cW k ++ d.entry gW cW k
def Data.outs (d : Data) : Nat → List UInt8
  | 0 => []
  | k + 1 => d.outs k ++ ([91] ++ d.wl k ++ [93])
theorem Data.outs_length (d : Data) (hd : d.Good) : ∀ k, k ≤ d.n → (d.outs k).length ≤ k * 2002
  | 0, _ => by simp [Data.outs]
  | k + 1, hk => by
    have h1 := d.outs_length hd k (by omega)
    have h2 := hd.wlM k (by omega)
    simp only [Data.outs, List.length_append, List.length_cons, List.length_nil]; omega

/-- What has become of the bytes and of the log behind k entries. -/
structure Prog (d : Data) (W : World) (base Bl nb gW cW : Nat) (vb vL : Value) (xb : List Value) (k : Nat) (vb' vL' : Value) (W' : World) : Prop where
  b : W'.ownsRow base 5 1 vb' (nb + (d.outs k).length) (xb ++ bytesV (d.outs k))
  lc : W'.heap[Bl]? = some (.cells #[vL'] 34 (0, 0))
  l : W'.ownsRow base 36 4 vL' k (d.logs gW cW k)
  kept : Kept W W' (fun j => j = Bl ∨ vb.ownBlock = some j ∨ vL.ownBlock = some j)
  nb' : ∀ g, vb'.ownBlock = some g → vb.ownBlock = some g ∨ W.heap.size ≤ g
  nl' : ∀ g, vL'.ownBlock = some g → vL.ownBlock = some g ∨ W.heap.size ≤ g

def OrderEnds (d : Data) (W : World) (base Bl nb gW cW : Nat) (vb vL : Value) (xb : List Value) (e : Ending) (W' : World) : Prop :=
  ∃ k vb' vL' okB, e = .returned (.tuple #[vb', .bool okB]) ∧ k ≤ d.n ∧ (∀ i, i < k → d.ok i = true) ∧ (okB = true → k = d.n) ∧ (okB = false → k < d.n ∧ d.ok k = false) ∧ Prog d W base Bl nb gW cW vb vL xb k vb' vL' W'

theorem entry_step {d : Data} {W W1 W2 : World} {base Bl nb gW cW k : Nat} {vb vL vb1 vL1 : Value} {xb : List Value} {e : Ending} (p : Prog d W base Bl nb gW cW vb vL xb k vb1 vL1 W1)
    (h : EntryEnds W1 base Bl (nb + (d.outs k).length) k vb1 vL1 (xb ++ bytesV (d.outs k)) (d.logs gW cW k) (d.entry gW cW k) (d.wl k) e W2) : ∃ vb2 vL2, e = .returned vb2 ∧ Prog d W base Bl nb gW cW vb vL xb (k + 1) vb2 vL2 W2 := by
  obtain ⟨vb2, vL2, rfl, h1, h2, h3, h4, h5, h6⟩ := h
  have hs := p.kept.size
  refine ⟨vb2, vL2, rfl, ?_, h2, h3, p.kept.trans h4 (fun g hg => ?_), fun g hg => ?_, fun g hg => ?_⟩
  · have e1 : nb + (d.outs k).length + (1 + (d.wl k).length + 1) = nb + (d.outs (k + 1)).length := by simp only [Data.outs, List.length_append, List.length_cons, List.length_nil]; omega
    rw [e1, List.append_assoc, ← bytesV_append] at h1
    exact h1
  · rcases hg with h | h | h
    · exact .inl (.inl h)
    · rcases p.nb' g h with h' | h'
      · exact .inl (.inr (.inl h'))
      · exact .inr h'
    · rcases p.nl' g h with h' | h'
      · exact .inl (.inr (.inr h'))
      · exact .inr h'
  · rcases h5 g hg with h | h
    · exact p.nb' g h
    · right; omega
  · rcases h6 g hg with h | h
    · exact p.nl' g h
    · right; omega
end Go.Proofs.Ybulkbhfk
