/- append ONTO A ROW OF THE CALL's OWN (as in the seat before); the row of the requests that are left. -/
import Derived.Test.YbulkbhhaFin
namespace Go.Proofs.Ybulkbhha
open Go.RowKit

section
variable {P : Program} (w : World)
theorem append_room_src (t tx ty e : TypeId) (i : TypeInfo) (ht : P.underlying t = some (.slice e)) (hi : P.info? e = some i) (g n cap : Nat) (cur : Array Value) (hg : w.heap[g]? = some (.cells cur e (0, 0)))
    (x : Value) (m : Nat) (news : List Value) (hs : Src P i.size tx x m news w) (hroom : n + m ≤ cap) (hfit : n * i.size + news.length ≤ cur.size) :
    (Builtin.append_ #[t, tx] ty #[.slice (some ⟨g, 0, none⟩) n cap, x]).run P w = .ok (.slice (some ⟨g, 0, none⟩) (n + m) cap) (w.setRow g (cur.toList.take (n * i.size) ++ news ++ cur.toList.drop (n * i.size + news.length)).toArray) := by
  have hst := run_storeCells_at P g (n * i.size) e news 0 cur w hg (by simpa using hfit) hs.one
  simp only [Nat.add_zero] at hst
  rcases hs.kind with ⟨e', hk⟩ | hk <;> simp [Builtin.append_, run_underlying ht, run_underlying hk, sizeOf, typeInfo, hi, hs.len, hroom, hs.cells, Addr.add_lit, hst]

theorem append_nil_none (t tx ty e : TypeId) (i : TypeInfo) (ht : P.underlying t = some (.slice e)) (hi : P.info? e = some i) (x : Value) (hs : Src P i.size tx x 0 [] w) :
    (Builtin.append_ #[t, tx] ty #[.slice none 0 0, x]).run P w = .ok (.slice none 0 0) w := by
  have hc := hs.cells
  rcases hs.kind with ⟨e', hk⟩ | hk <;> simp [Builtin.append_, run_underlying ht, run_underlying hk, sizeOf, typeInfo, hi, hs.len, hc]

/-- WHAT AN append LEAVES. -/
def Appended (w : World) (base : Nat) (e : TypeId) (size : Nat) (v : Value) (n : Nat) (xs : List Value) (v' : Value) (w' : World) : Prop :=
  w'.ownsRow base e size v' n xs ∧ w.grownBy w' v.ownBlock ∧ (v'.ownBlock = v.ownBlock ∨ v'.ownBlock = some w.heap.size)

theorem append_src (base : Nat) (t tx ty e : TypeId) (i : TypeInfo) (z : Value) (size bytes : Nat) (ht : P.underlying t = some (.slice e)) (hi : P.info? e = some i) (hz : i.zero = some z)
    (hsize : i.size = size) (hby : i.bytes = bytes) (hzs : z.cells.size = size) (v : Value) (n : Nat) (xs : List Value) (hown : w.ownsRow base e size v n xs)
    (x : Value) (m : Nat) (news : List Value) (hs : Src P size tx x m news w) (hfit : ∀ old, old < n + m → Builtin.nextslicecap (n + m) old * bytes ≤ 281474976710656) (h63 : n + m ≤ maxLen) (hbase : base ≤ w.heap.size) :
    ∃ v' w', (Builtin.append_ #[t, tx] ty #[v, x]).run P w = .ok v' w' ∧ Appended w base e size v (n + m) (xs ++ news) v' w' := by
  subst hsize
  subst hby
  have h63' : ((n + m : Nat) : Int) ≤ 9223372036854775807 := by simp only [maxLen] at h63; omega
  have hlen : (xs ++ news).length = (n + m) * i.size := by rw [List.length_append, hown.1, hs.newsLen, Nat.add_mul]
  have grown : ∀ (old : Nat) (row : Option Nat), (w.drew.alloc (.cells ((xs ++ news).toArray ++ Builtin.zeroCells z.cells (grownCap w (n + m) old e - (n + m))) e)).ownsRow base e i.size
        (.slice (some ⟨w.heap.size, 0, none⟩) (n + m) (grownCap w (n + m) old e)) (n + m) (xs ++ news) ∧
      w.grownBy (w.drew.alloc (.cells ((xs ++ news).toArray ++ Builtin.zeroCells z.cells (grownCap w (n + m) old e - (n + m))) e)) row := by
    intro old row
    have hge := grownCap_ge w (n + m) old e
    have hcm : grownCap w (n + m) old e ≤ maxLen := grownCap_le_maxLen w (n + m) old e h63
    refine ⟨⟨hlen, .inr ⟨w.heap.size, _, _, rfl, hbase, heap_alloc_new w.drew _, hge, hcm, ?_, ?_⟩⟩, ⟨rfl, rfl, rfl, by simp, fun k hk _ => Below.heap_alloc w.drew _ k hk⟩⟩
    · simp only [Array.size_append, List.size_toArray, size_zeroCells, hzs, hlen, ← Nat.add_mul]
      congr 1
      omega
    · simp only [Array.toList_append]
      rw [← hlen]
      exact List.take_left
  rcases hown.2 with ⟨rfl, rfl⟩ | ⟨g, cap, cur, rfl, hbg, hg, hnc, hcm, hcs, htake⟩
  · have hx : xs = [] := List.eq_nil_of_length_eq_zero (by simpa using hown.1)
    subst hx
    by_cases hm : m = 0
    · subst hm
      have hn : news = [] := List.eq_nil_of_length_eq_zero (by simpa using hs.newsLen)
      subst hn
      exact ⟨_, _, append_nil_none w t tx ty e i ht hi x hs, World.ownsRow_nil w base e i.size, ⟨rfl, rfl, rfl, Nat.le_refl _, fun _ _ _ => rfl⟩, .inl rfl⟩
    · have hr := run_append_grow_src (P := P) w t tx ty e i z ht hi hz none 0 0 [] (run_firstCells_none w.drew i.size 0 0 0) x m news hs (by omega) h63' (hfit 0 (by omega))
      obtain ⟨g1, g2⟩ := grown 0 (Value.ownBlock (.slice none 0 0))
      exact ⟨_, _, hr, g1, g2, .inr rfl⟩
  · by_cases hroom : n + m ≤ cap
    · have hft : n * i.size + news.length ≤ cur.size := by rw [hs.newsLen, hcs, ← Nat.add_mul]; exact Nat.mul_le_mul_right _ hroom
      have hr := append_room_src (P := P) w t tx ty e i ht hi g n cap cur hg x m news hs hroom hft
      refine ⟨_, _, hr, ⟨hlen, .inr ⟨g, cap, _, rfl, hbg, setRow_heap w g cur _ e _ hg, hroom, hcm, ?_, ?_⟩⟩, ⟨rfl, rfl, rfl, by simp, fun k _ hk => setRow_other w g k _ (fun e => hk (by simp [Value.ownBlock, e]))⟩, .inl rfl⟩
      · simp only [List.size_toArray, List.length_append, List.length_take, List.length_drop, Array.length_toList]
        omega
      · rw [htake, ← hlen]
        exact List.take_left
    · have holds : ∀ j u, xs[j]? = some u → w.cell? ((⟨g, 0, none⟩ : Addr).add j) = some u := hown.cells (g := g) rfl
      have hr := run_append_grow_src (P := P) w t tx ty e i z ht hi hz (some ⟨g, 0, none⟩) n cap xs (run_firstCells_some w.drew i.size n ⟨g, 0, none⟩ n cap xs hown.1 (by simpa using holds)) x m news hs (by omega) h63' (hfit cap (by omega))
      obtain ⟨g1, g2⟩ := grown cap (Value.ownBlock (.slice (some ⟨g, 0, none⟩) n cap))
      exact ⟨_, _, hr, g1, g2, .inr rfl⟩
end

/-- An append whose run is known, at its operation. -/
theorem wpList_append_run {P : Program} {w : World} {ops : Array Oper} {rest : List Oper} {o : Oper} {a : Act} {Q : Exit → Act → World → Prop} (hgd : o.guard = none) (d s : Operand) (dT sT ty : TypeId)
    (ho : o.op = .call { callee := .builtin .append, args := #[d, s], argTypes := #[dT, sT] }) (hty : o.type = ty) (x y : Value) (hd : a.eval d = x) (hs : a.eval s = y) (v : Value) (w' : World)
    (hrun : (Builtin.append_ #[dT, sT] ty #[x, y]).run P w = .ok v w') (h : wpList P ops Q rest (a.put o.dst v) w') : wpList P ops Q (o :: rest) a w := by
  subst hty
  refine wpList_plain hgd fun K hK => ?_
  unfold Oper.wp
  simp [execOp, ho, resolve, invoke, builtin, hd, hs, hrun, Result.andThen]
  exact hK _ _ h

theorem own_new {w w' : World} {v v' : Value} {base : Nat} {e : TypeId} {size n : Nat} {xs : List Value} (h : Appended w base e size v n xs v' w') : ∀ g, v'.ownBlock = some g → v.ownBlock = some g ∨ w.heap.size ≤ g := fun g hg => by
  rcases h.2.2 with h1 | h1
  · left; rw [← h1]; exact hg
  · right; rw [h1] at hg; injection hg with hg; omega


theorem app_want (W : World) (base : Nat) (v : Value) (m : Nat) (xs : List Value) (hown : W.ownsRow base 61 1 v m xs) (q : Value) (hq : q.oneCell' = true) (hfit : m + 1 ≤ 1000) (hbase : base ≤ W.heap.size) :
    ∃ v' W', (Builtin.append_ #[66, 66] 66 #[v, .slice (some ⟨W.heap.size, 0, none⟩) 1 1]).run Yba.prog (W.alloc (.cells #[q] 61)) = .ok v' W' ∧ W'.ownsRow base 61 1 v' (m + 1) (xs ++ [q]) ∧ Kept W W' (fun g => v.ownBlock = some g) ∧ (∀ g, v'.ownBlock = some g → v.ownBlock = some g ∨ W.heap.size ≤ g) := by
  obtain ⟨i, hi, hz, hs1, hb⟩ := info_parts info61
  obtain ⟨v', W', hr, happ⟩ := append_src (P := Yba.prog) (W.alloc (.cells #[q] 61)) base 66 66 66 61 i _ 1 8 Yba.underlying66 hi hz hs1 hb rfl v m xs (hown.alloc _) _ 1 [q] (src_new W q hq) (fun old ho => growslice_fits ho (by omega)) (by unfold maxLen; omega) (by simp; omega)
  refine ⟨v', W', hr, happ.1, ((Kept.refl W _).alloc _).grown happ.2.1 (fun g hg => .inl hg), fun g hg => ?_⟩
  rcases own_new happ g hg with h | h
  · exact .inl h
  · right; simp at h; omega

theorem own_ge {W : World} {base : Nat} {v : Value} {n : Nat} {xs : List Value} (h : W.ownsRow base 61 1 v n xs) (g : Nat) (hg : v.ownBlock = some g) : base ≤ g := (h.lt g hg).1

/-- The slice made with room. -/
theorem own_made (W : World) (base n : Nat) (C : List Value) (hC : C.length = n) (hb : base ≤ W.heap.size) (hn : n ≤ 300) : (W.alloc (.cells C.toArray 61)).ownsRow base 61 1 (.slice (some ⟨W.heap.size, 0, none⟩) 0 n) 0 [] :=
  ⟨rfl, .inr ⟨W.heap.size, n, C.toArray, rfl, hb, heap_alloc_new W _, Nat.zero_le _, by unfold maxLen; omega, by simp [hC], by simp⟩⟩

/-! ### What follows what -/
theorem cnt_skip (k : Nat) : cnt k (k + 1) = cnt k k := by unfold cnt; rw [if_pos (by omega), if_neg (by omega)]; omega
theorem cnt_next {k i : Nat} (h : i ≠ k) : cnt k (i + 1) = cnt k i + 1 := by unfold cnt; split <;> split <;> omega
theorem wi_cnt {k i : Nat} (h : i ≠ k) : wi k (cnt k i) = i := by
  unfold wi cnt; split <;> split <;> omega
def pp (S k : Nat) (i : Nat) : Option Addr := if i = 0 then none else some ⟨S + 3 * wi k (i - 1) + 2, 0, none⟩
def pc (S k n : Nat) (i : Nat) : Option Addr := if i < n - 1 then some ⟨S + 3 * wi k i + 2, 0, none⟩ else none

section
variable {S k n : Nat} {s : St}
theorem pv_left (hp : ∀ j, s.pv j = if j = 0 then .pointer none else ptr (S + 3 * (j - 1) + 2)) (i : Nat) :
    (if wi k i = k + 1 then s.pv k else s.pv (wi k i)) = .pointer (pp S k i) := by
  rw [hp, hp]
  unfold pp wi ptr
  by_cases h : i < k
  · rw [if_pos h, if_neg (by omega)]
    by_cases h0 : i = 0
    · rw [if_pos h0, if_pos h0]
    · rw [if_neg h0, if_neg h0, if_pos (by omega)]
  · rw [if_neg h]
    by_cases e : i = k
    · rw [if_pos (by omega)]
      by_cases h0 : k = 0
      · rw [if_pos h0, if_pos (by omega)]
      · rw [if_neg h0, if_neg (by omega), if_pos (by omega), e]
    · rw [if_neg (by omega), if_neg (by omega), if_neg (by omega), if_neg (by omega)]
      have : i - 1 + 1 = i + 1 - 1 := by omega
      rw [this]
theorem nx_left (hk : k < n) (hp : ∀ j, s.nx j = if j + 1 < n then ptr (S + 3 * (j + 1) + 2) else .pointer none) (i : Nat) (hi : i < n - 1) :
    (if wi k i + 1 = k then s.nx k else s.nx (wi k i)) = .pointer (pc S k n (i + 1)) := by
  rw [hp, hp]
  unfold pc wi ptr
  by_cases h : i < k
  · rw [if_pos h]
    by_cases e : i + 1 = k
    · rw [if_pos e]
      by_cases e2 : k + 1 < n
      · rw [if_pos e2, if_pos (by omega), if_neg (by omega), e]
      · rw [if_neg e2, if_neg (by omega)]
    · rw [if_neg e, if_pos (by omega), if_pos (by omega), if_pos (by omega)]
  · rw [if_neg h, if_neg (by omega)]
    by_cases e2 : i + 1 + 1 < n
    · rw [if_pos e2, if_pos (by omega), if_neg (by omega)]
    · rw [if_neg e2, if_neg (by omega)]
theorem hd_left (hk : k < n) (hp : ∀ j, s.nx j = if j + 1 < n then ptr (S + 3 * (j + 1) + 2) else .pointer none) (hh : s.hd = ptr (S + 3 * 0 + 2)) :
    (if k = 0 then s.nx k else s.hd) = .pointer (pc S k n 0) := by
  rw [hp, hh]
  unfold pc wi ptr
  by_cases h : k = 0
  · rw [if_pos h]
    by_cases e2 : k + 1 < n
    · rw [if_pos e2, if_pos (by omega), if_neg (by omega), h]
    · rw [if_neg e2, if_neg (by omega)]
  · rw [if_neg h, if_pos (by omega), if_pos (by omega)]
theorem tl_left (hk : k < n) (hp : ∀ j, s.pv j = if j = 0 then .pointer none else ptr (S + 3 * (j - 1) + 2)) (ht : s.tl = ptr (S + 3 * (n - 1) + 2)) :
    (if k + 1 = n then s.pv k else s.tl) = .pointer (pp S k (n - 1)) := by
  rw [hp, ht]
  unfold pp wi ptr
  by_cases h : k + 1 = n
  · rw [if_pos h]
    by_cases h0 : k = 0
    · rw [if_pos h0, if_pos (by omega)]
    · rw [if_neg h0, if_neg (by omega), if_pos (by omega)]
      have : k - 1 = n - 1 - 1 := by omega
      rw [this]
  · rw [if_neg h, if_neg (by omega), if_neg (by omega)]
    have : n - 1 = n - 1 - 1 + 1 := by omega
    rw [← this]
end

/-! ### A pointer is itself -/
theorem neq_of {t e : TypeId} (ht : Yba.prog.underlying t = some (.pointer e)) (hn : Yba.prog.underlying t = some (.pointer (Yba.prog.pointee t))) (he : (Yba.prog.info? e).isSome = true) (p : Option Addr) (w : World) :
    (binOp .neq t (.pointer p) (.pointer p)).run Yba.prog w = .ok (.bool false) w := by
  cases p with
  | none => exact run_neq_pointer_nil w t none hn
  | some a =>
    obtain ⟨i, hi⟩ := Option.isSome_iff_exists.1 he
    have h : ∀ d : Nat, (Op.equalIn (d + 1) t (.pointer (some a)) (.pointer (some a))).run Yba.prog w = .ok true w := fun d => by
      simp [Op.equalIn, run_underlying ht, sizeOf, typeInfo, hi, run_sameAddr_same]
    simp only [binOp]
    simp [Op.equal, Op.maxDepth, h 9999]
theorem neq61 (p : Option Addr) (w : World) : (binOp .neq 61 (.pointer p) (.pointer p)).run Yba.prog w = .ok (.bool false) w := neq_of Yba.underlying61 (by kernel_rfl) (by kernel_rfl) p w
theorem neq41 (p : Option Addr) (w : World) : (binOp .neq 41 (.pointer p) (.pointer p)).run Yba.prog w = .ok (.bool false) w := neq_of Yba.underlying41 (by kernel_rfl) (by kernel_rfl) p w
theorem neq53 (p : Option Addr) (w : World) : (binOp .neq 53 (.pointer p) (.pointer p)).run Yba.prog w = .ok (.bool false) w := neq_of Yba.underlying53 (by kernel_rfl) (by kernel_rfl) p w
end Go.Proofs.Ybulkbhha
