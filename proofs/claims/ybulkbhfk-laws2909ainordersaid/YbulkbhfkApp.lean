/- append ONTO A ROW OF THE CALL's OWN, FROM WHATEVER SOURCE, for lengths a little beyond 2^47 bytes; bytes.Equal. -/
import Derived.Test.YbulkbhfkProg
import Derived.WalkKit
import Derived.WalkSpells
import Derived.WalkLawsBesides
import Derived.Deep.AppendSrc
import Derived.Deep.MidRow
import Derived.Deep.RegionHeld3
import Derived.Deep.CutBlock
namespace Go.Proofs.Ybulkbhfk
open Go.RowKit

theorem hide {p : Prop} (h : p) : Hid p := h

/-! ### How much an append may ask for -/
theorem growBy_le (need B : Nat) (hB : need + need / 4 + 193 ≤ B) : ∀ (r c : Nat), c ≤ B → Builtin.growBy need r c ≤ B
  | 0, c, h => h
  | r + 1, c, h => by
    unfold Builtin.growBy
    split
    · exact h
    · exact growBy_le need B hB r _ (by omega)
theorem nextcap_le (need old : Nat) (h : old < need) (hn : need ≤ 140737489403904) : Builtin.nextslicecap need old ≤ 281474976710656 := by
  unfold Builtin.nextslicecap
  split
  · omega
  · split
    · omega
    · exact growBy_le need _ (by omega) 4 old (by omega)

section
variable {P : Program} (w : World)
theorem append_room_src (t tx ty e : TypeId) (i : TypeInfo) (ht : P.underlying t = some (.slice e)) (hi : P.info? e = some i) (g n cap : Nat) (cur : Array Value) (hg : w.heap[g]? = some (.cells cur e (0, 0)))
    (x : Value) (m : Nat) (news : List Value) (hs : Src P i.size tx x m news w) (hroom : n + m ≤ cap) (hfit : n * i.size + news.length ≤ cur.size) :
    (Builtin.append_ #[t, tx] ty #[.slice (some ⟨g, 0, none⟩) n cap, x]).run P w = .ok (.slice (some ⟨g, 0, none⟩) (n + m) cap) (w.setRow g (cur.toList.take (n * i.size) ++ news ++ cur.toList.drop (n * i.size + news.length)).toArray) := by
  have hst := run_storeCells_at P g (n * i.size) e news 0 cur w hg (by simpa using hfit) hs.one
  simp only [Nat.add_zero] at hst
  rcases hs.kind with ⟨e', hk⟩ | hk <;> simp [Builtin.append_, run_underlying ht, run_underlying hk, sizeOf, typeInfo, hi, hs.len, hroom, hs.cells, Addr.add_lit, hst]

theorem append_nil_none (t tx ty e : TypeId) (i : TypeInfo) (ht : P.underlying t = some (.slice e)) (hi : P.info? e = some i) (x : Value) (hs : Src P i.size tx x 0 [] w) :
    (Builtin.append_ #[t, tx] ty #[.slice none 0 0, x]).run P w = .ok (.slice none 0 0) w := by
  have hc := hs.cells
  rcases hs.kind with ⟨e', hk⟩ | hk <;> simp [Builtin.append_, run_underlying ht, run_underlying hk, sizeOf, typeInfo, hi, hs.len, hc]

/-- WHAT AN append LEAVES. -/
def Appended (w : World) (base : Nat) (e : TypeId) (size : Nat) (v : Value) (n : Nat) (xs : List Value) (v' : Value) (w' : World) : Prop :=
  w'.ownsRow base e size v' n xs ∧ w.grownBy w' v.ownBlock ∧ (v'.ownBlock = v.ownBlock ∨ v'.ownBlock = some w.heap.size)

theorem append_src (base : Nat) (t tx ty e : TypeId) (i : TypeInfo) (z : Value) (size bytes : Nat) (ht : P.underlying t = some (.slice e)) (hi : P.info? e = some i) (hz : i.zero = some z)
    (hsize : i.size = size) (hby : i.bytes = bytes) (hzs : z.cells.size = size) (v : Value) (n : Nat) (xs : List Value) (hown : w.ownsRow base e size v n xs)
    (x : Value) (m : Nat) (news : List Value) (hs : Src P size tx x m news w) (hfit : ∀ old, old < n + m → Builtin.nextslicecap (n + m) old * bytes ≤ 281474976710656) (h63 : n + m ≤ maxLen) (hbase : base ≤ w.heap.size) :
    ∃ v' w', (Builtin.append_ #[t, tx] ty #[v, x]).run P w = .ok v' w' ∧ Appended w base e size v (n + m) (xs ++ news) v' w' := by
  subst hsize
  subst hby
  have h63' : ((n + m : Nat) : Int) ≤ 9223372036854775807 := by simp only [maxLen] at h63; omega
  have hlen : (xs ++ news).length = (n + m) * i.size := by rw [List.length_append, hown.1, hs.newsLen, Nat.add_mul]
  have grown : ∀ (old : Nat) (row : Option Nat), (w.drew.alloc (.cells ((xs ++ news).toArray ++ Builtin.zeroCells z.cells (grownCap w (n + m) old e - (n + m))) e)).ownsRow base e i.size
        (.slice (some ⟨w.heap.size, 0, none⟩) (n + m) (grownCap w (n + m) old e)) (n + m) (xs ++ news) ∧
      w.grownBy (w.drew.alloc (.cells ((xs ++ news).toArray ++ Builtin.zeroCells z.cells (grownCap w (n + m) old e - (n + m))) e)) row := by
    intro old row
    have hge := grownCap_ge w (n + m) old e
    have hcm : grownCap w (n + m) old e ≤ maxLen := grownCap_le_maxLen w (n + m) old e h63
    refine ⟨⟨hlen, .inr ⟨w.heap.size, _, _, rfl, hbase, heap_alloc_new w.drew _, hge, hcm, ?_, ?_⟩⟩, ⟨rfl, rfl, rfl, by simp, fun k hk _ => Below.heap_alloc w.drew _ k hk⟩⟩
    · simp only [Array.size_append, List.size_toArray, size_zeroCells, hzs, hlen, ← Nat.add_mul]
      congr 1
      omega
    · simp only [Array.toList_append]
      rw [← hlen]
      exact List.take_left
  rcases hown.2 with ⟨rfl, rfl⟩ | ⟨g, cap, cur, rfl, hbg, hg, hnc, hcm, hcs, htake⟩
  · have hx : xs = [] := List.eq_nil_of_length_eq_zero (by simpa using hown.1)
    subst hx
    by_cases hm : m = 0
    · subst hm
      have hn : news = [] := List.eq_nil_of_length_eq_zero (by simpa using hs.newsLen)
      subst hn
      exact ⟨_, _, append_nil_none w t tx ty e i ht hi x hs, World.ownsRow_nil w base e i.size, ⟨rfl, rfl, rfl, Nat.le_refl _, fun _ _ _ => rfl⟩, .inl rfl⟩
    · have hr := run_append_grow_src (P := P) w t tx ty e i z ht hi hz none 0 0 [] (run_firstCells_none w.drew i.size 0 0 0) x m news hs (by omega) h63' (hfit 0 (by omega))
      obtain ⟨g1, g2⟩ := grown 0 (Value.ownBlock (.slice none 0 0))
      exact ⟨_, _, hr, g1, g2, .inr rfl⟩
  · by_cases hroom : n + m ≤ cap
    · have hft : n * i.size + news.length ≤ cur.size := by rw [hs.newsLen, hcs, ← Nat.add_mul]; exact Nat.mul_le_mul_right _ hroom
      have hr := append_room_src (P := P) w t tx ty e i ht hi g n cap cur hg x m news hs hroom hft
      refine ⟨_, _, hr, ⟨hlen, .inr ⟨g, cap, _, rfl, hbg, setRow_heap w g cur _ e _ hg, hroom, hcm, ?_, ?_⟩⟩, ⟨rfl, rfl, rfl, by simp, fun k _ hk => setRow_other w g k _ (fun e => hk (by simp [Value.ownBlock, e]))⟩, .inl rfl⟩
      · simp only [List.size_toArray, List.length_append, List.length_take, List.length_drop, Array.length_toList]
        omega
      · rw [htake, ← hlen]
        exact List.take_left
    · have holds : ∀ j u, xs[j]? = some u → w.cell? ((⟨g, 0, none⟩ : Addr).add j) = some u := hown.cells (g := g) rfl
      have hr := run_append_grow_src (P := P) w t tx ty e i z ht hi hz (some ⟨g, 0, none⟩) n cap xs (run_firstCells_some w.drew i.size n ⟨g, 0, none⟩ n cap xs hown.1 (by simpa using holds)) x m news hs (by omega) h63' (hfit cap (by omega))
      obtain ⟨g1, g2⟩ := grown cap (Value.ownBlock (.slice (some ⟨g, 0, none⟩) n cap))
      exact ⟨_, _, hr, g1, g2, .inr rfl⟩
end

/-- An append whose run is known, at its operation. -/
theorem wpList_append_run {P : Program} {w : World} {ops : Array Oper} {rest : List Oper} {o : Oper} {a : Act} {Q : Exit → Act → World → Prop} (hgd : o.guard = none) (d s : Operand) (dT sT ty : TypeId)
    (ho : o.op = .call { callee := .builtin .append, args := #[d, s], argTypes := #[dT, sT] }) (hty : o.type = ty) (x y : Value) (hd : a.eval d = x) (hs : a.eval s = y) (v : Value) (w' : World)
    (hrun : (Builtin.append_ #[dT, sT] ty #[x, y]).run P w = .ok v w') (h : wpList P ops Q rest (a.put o.dst v) w') : wpList P ops Q (o :: rest) a w := by
  subst hty
  refine wpList_plain hgd fun K hK => ?_
  unfold Oper.wp
  simp [execOp, ho, resolve, invoke, builtin, hd, hs, hrun, Result.andThen]
  exact hK _ _ h

/-! ### Slices of bytes, and bytes.Equal -/
/-- v is a slice of bytes that reads l. -/
def BS (w : World) (v : Value) (l : List UInt8) : Prop :=
  ∃ a c, v = .slice a l.length c ∧ (0 < l.length → ∃ g o, a = some ⟨g, o, none⟩ ∧ ∀ j (hj : j < l.length), w.cell? ⟨g, o + j, none⟩ = some (.int .u8 (l[j].toNat : Int)))

theorem conv_bs (w : World) (v : Value) (l : List UInt8) (h : BS w v l) : (convert 25 9 v).run Yba.prog w = .ok (.string ⟨l.toArray⟩) w := by
  obtain ⟨a, c, rfl, hc⟩ := h
  by_cases h0 : l.length = 0
  · have hl : l = [] := List.eq_nil_of_length_eq_zero h0
    subst hl
    rw [run_convert_bytes_string w 25 9 5 _ _ c Yba.underlying25 Yba.underlying5 Yba.underlying9]
    cases a <;> simp [Conv.bytesToString, loadCells]
    all_goals rfl
  · obtain ⟨g, o, rfl, hc'⟩ := hc (by omega)
    exact run_convert_bytes_back (P := Yba.prog) w 25 9 5 ⟨g, o, none⟩ c l Yba.underlying25 Yba.underlying5 Yba.underlying9 (fun j hj => by rw [Addr.add_mid]; exact hc' j hj)

theorem equal_any (w : World) (v v' : Value) (l : List UInt8) (h : BS w v l) (h' : BS w v' l) :
    Calls Yba.prog 6 #[v, v'] w fun e w' => e = .returned (.bool true) ∧ w' = w := by
  have h1 := conv_bs w v l h
  have h2 := conv_bs w v' l h'
  obtain ⟨a, c, rfl, _⟩ := h
  obtain ⟨a', c', rfl, _⟩ := h'
  go_enter Yba.func6, Yba.ntmps6
  go_wp2
  go_ret
  exact ⟨rfl, rfl⟩
end Go.Proofs.Ybulkbhfk
