/- WHAT dequeue HAS LEFT, FIELD BY FIELD; the rows of pointers. -/
import Derived.Test.YbulkbhhaStart
namespace Go.Proofs.Ybulkbhha
open Go.RowKit

def St.fin (s : St) (S m k : Nat) (bh x : Bool) (v : Value) : St := (((((s.s1 k).s2 m k).s3 m bh).s4 k x).s5 S k x).s6 v

section
variable (s : St) (S m k : Nat) (bh x : Bool) (v : Value)
theorem fin_wt : (s.fin S m k bh x v).wt = v := rfl
theorem fin_hd : (s.fin S m k bh x v).hd = if k = 0 then s.nx k else s.hd := by
  unfold St.fin St.s6 St.s5 St.s4 St.s3 St.s2 St.s1; cases x <;> by_cases h : m = 1 <;> simp [h]
theorem fin_tl : (s.fin S m k bh x v).tl = if k + 1 = m then s.pv k else s.tl := by
  unfold St.fin St.s6 St.s5 St.s4 St.s3 St.s2 St.s1; cases x <;> by_cases h : m = 1 <;> simp [h]
theorem fin_nx (j : Nat) : (s.fin S m k bh x v).nx j = if j + 1 = k then s.nx k else s.nx j := by
  unfold St.fin St.s6 St.s5 St.s4 St.s3 St.s2 St.s1; cases x <;> by_cases h : m = 1 <;> simp [h]
theorem fin_pv (j : Nat) : (s.fin S m k bh x v).pv j = if j = k + 1 then s.pv k else s.pv j := by
  unfold St.fin St.s6 St.s5 St.s4 St.s3 St.s2 St.s1; cases x <;> by_cases h : m = 1 <;> simp [h]
theorem fin_rn (hrn : s.rn = .pointer none) : (s.fin S m k bh x v).rn = .pointer none := by
  unfold St.fin St.s6 St.s5 St.s4 St.s3 St.s2 St.s1; cases x <;> by_cases h : m = 1 <;> simp [h, hrn]
theorem fin_rp : (s.fin S m k bh x v).rp = if m = 1 then .pointer none else s.rp := by
  unfold St.fin St.s6 St.s5 St.s4 St.s3 St.s2 St.s1; cases x <;> by_cases h : m = 1 <;> simp [h]
theorem fin_tq : (s.fin S m k bh x v).tq = if m = 1 ∧ bh = false then .pointer none else s.tq := by
  unfold St.fin St.s6 St.s5 St.s4 St.s3 St.s2 St.s1; cases x <;> cases bh <;> by_cases h : m = 1 <;> simp [h]
theorem fin_oq : (s.fin S m k bh x v).oq = if m = 1 ∧ bh = true then .pointer none else s.oq := by
  unfold St.fin St.s6 St.s5 St.s4 St.s3 St.s2 St.s1; cases x <;> cases bh <;> by_cases h : m = 1 <;> simp [h]
theorem fin_op : (s.fin S m k bh x v).op = s.op := by
  unfold St.fin St.s6 St.s5 St.s4 St.s3 St.s2 St.s1; cases x <;> by_cases h : m = 1 <;> simp [h]
theorem fin_i1 : (s.fin S m k bh x v).i1 = if x then s.i1 else ptr (S + 3 * k + 1) := by
  unfold St.fin St.s6 St.s5 St.s4 St.s3 St.s2 St.s1; cases x <;> by_cases h : m = 1 <;> simp [h]
theorem fin_i2 : (s.fin S m k bh x v).i2 = if x then s.i2 else ptr (S + 3 * k + 1) := by
  unfold St.fin St.s6 St.s5 St.s4 St.s3 St.s2 St.s1; cases x <;> by_cases h : m = 1 <;> simp [h]
theorem fin_ic : (s.fin S m k bh x v).ic = if x then s.ic else .int .i64 1 := by
  unfold St.fin St.s6 St.s5 St.s4 St.s3 St.s2 St.s1; cases x <;> by_cases h : m = 1 <;> simp [h]
theorem fin_ip (j : Nat) (hp : s.ip j = .pointer none) : (s.fin S m k bh x v).ip j = .pointer none := by
  unfold St.fin St.s6 St.s5 St.s4 St.s3 St.s2 St.s1; cases x <;> by_cases h : m = 1 <;> simp [h, hp]
theorem fin_iq (j : Nat) (hp : s.iq j = .pointer none) : (s.fin S m k bh x v).iq j = .pointer none := by
  unfold St.fin St.s6 St.s5 St.s4 St.s3 St.s2 St.s1; cases x <;> by_cases h : m = 1 <;> simp [h, hp]
theorem fin_mp (j : Nat) : (s.fin S m k bh x v).mp j = if j = k then .map (left x) (clk x) else s.mp j := by
  unfold St.fin St.s6 St.s5 St.s4 St.s3 St.s2 St.s1; cases x <;> by_cases h : m = 1 <;> simp [h]
end

/-- The place of the j-th request that is left. -/
def wi (k j : Nat) : Nat := if j < k then j else j + 1
/-- The requests that are left, up to the m-th. -/
def wants (S k m : Nat) : List Value := (List.range m).map fun j => ptr (S + 3 * wi k j + 2)
theorem wants_length (S k m : Nat) : (wants S k m).length = m := by simp [wants]
theorem wants_get (S k m j : Nat) (hj : j < m) : (wants S k m)[j]? = some (ptr (S + 3 * wi k j + 2)) := by simp [wants, hj]
theorem wants_succ (S k m : Nat) : wants S k (m + 1) = wants S k m ++ [ptr (S + 3 * wi k m + 2)] := by simp [wants, List.range_succ]
/-- How many are left of the first i. -/
def cnt (k i : Nat) : Nat := if k < i then i - 1 else i

/-- The row of what is left, in W: as cells. -/
theorem own_cells {W : World} {base : Nat} {v : Value} {n : Nat} {xs : List Value} (h : W.ownsRow base 61 1 v n xs) : ∃ a c, v = .slice a n c ∧ (0 < n → ∃ g, a = some ⟨g, 0, none⟩ ∧ base ≤ g ∧ ∀ j u, xs[j]? = some u → W.cell? ⟨g, j, none⟩ = some u) := by
  obtain ⟨hl, h2⟩ := h
  rcases h2 with ⟨rfl, rfl⟩ | ⟨g, cap, cur, rfl, hb, hg, r1, r2, r3, r4⟩
  · exact ⟨none, 0, rfl, fun h => absurd h (Nat.lt_irrefl _)⟩
  · refine ⟨_, cap, rfl, fun _ => ⟨g, rfl, hb, fun j u hj => ?_⟩⟩
    have hjl : j < xs.length := (List.getElem?_eq_some_iff.1 hj).1
    simp only [World.cell?, hg]
    rw [← r4, List.getElem?_take_of_lt (by omega)] at hj
    simpa using hj

theorem src_new (w : World) (v : Value) (h1 : v.oneCell' = true) : Src Yba.prog 1 66 (.slice (some ⟨w.heap.size, 0, none⟩) 1 1) 1 [v] (w.alloc (.cells #[v] 61)) :=
  Src.ofSlice (w.alloc (.cells #[v] 61)) Yba.underlying66 ⟨w.heap.size, 0, none⟩ 1 1 [v] rfl (fun j u hj => by
    have hh : (w.alloc (.cells #[v] 61)).heap[w.heap.size]? = some (.cells #[v] 61) := heap_alloc_new w _
    rw [Addr.add_mid, Nat.zero_add]
    simp only [World.cell?, hh]
    simpa using hj) (fun u hu => by simp at hu; subst hu; exact h1)
end Go.Proofs.Ybulkbhha
