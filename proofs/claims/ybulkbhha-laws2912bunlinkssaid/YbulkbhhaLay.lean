/- WHAT LIES IN MEMORY WHEN THE LAW HAS BUILT ITS QUEUE: cell by cell; kept where nothing of it is touched, turned by a store. -/
import Derived.Test.YbulkbhhaProg
import Derived.WalkKit
import Derived.WalkSpells
import Derived.WalkLawsBesides
import Derived.Deep.AppendSrc
import Derived.Deep.MidRow
import Derived.Deep.RegionHeld3
import Derived.Deep.CutBlock
import Derived.Deep.RegionLaw
import Derived.Maps.OwnOps
import Derived.WideMake
namespace Go.Proofs.Ybulkbhha
open Go.RowKit

theorem hide {p : Prop} (h : p) : Hid p := h

/-- Of what lay in w, w' has turned at most the blocks in T. -/
structure Kept (w w' : World) (T : Nat → Prop) : Prop where
  os : w'.os = w.os
  tape : w'.tape = w.tape
  output : w'.output = w.output
  size : w.heap.size ≤ w'.heap.size
  block : ∀ k, k < w.heap.size → ¬ T k → w'.heap[k]? = w.heap[k]?
section
variable {w w1 w2 : World} {T : Nat → Prop}
theorem Kept.refl (w : World) (T : Nat → Prop) : Kept w w T := ⟨rfl, rfl, rfl, Nat.le_refl _, fun _ _ _ => rfl⟩
theorem Kept.grown (h : Kept w w1 T) {row : Option Nat} (hg : w1.grownBy w2 row) (hr : ∀ g, row = some g → T g ∨ w.heap.size ≤ g) : Kept w w2 T :=
  ⟨hg.os.trans h.os, hg.tape.trans h.tape, hg.output.trans h.output, Nat.le_trans h.size hg.size, fun k hk hT => by
    rw [hg.block k (Nat.lt_of_lt_of_le hk h.size) (fun e => by rcases hr k e.symm with h1 | h1; exact hT h1; omega)]; exact h.block k hk hT⟩
theorem Kept.alloc (h : Kept w w1 T) (o : Obj) : Kept w (w1.alloc o) T := h.grown (World.grownBy_alloc w1 o none) (fun _ e => by cases e)
theorem Kept.drew (h : Kept w w1 T) : Kept w w1.drew T := ⟨h.os, h.tape, h.output, h.size, h.block⟩
theorem Kept.setCell (h : Kept w w1 T) {a : Addr} (ha : T a.block ∨ w.heap.size ≤ a.block) (v : Value) : Kept w (w1.setCell a v) T :=
  ⟨h.os, h.tape, h.output, by simpa [World.setCell] using h.size, fun k hk hT => by
    rw [Below.heap_setCell w1 a v k (fun e => by subst e; rcases ha with h1 | h1; exact hT h1; omega)]; exact h.block k hk hT⟩
theorem Kept.setObj (h : Kept w w1 T) {b : Nat} (ha : T b ∨ w.heap.size ≤ b) (o : Obj) : Kept w { w1 with heap := w1.heap.setIfInBounds b o } T :=
  ⟨h.os, h.tape, h.output, by simpa using h.size, fun k hk hT => by
    have hne : b ≠ k := fun e => by subst e; rcases ha with h1 | h1; exact hT h1; omega
    rw [← h.block k hk hT]; exact Array.getElem?_setIfInBounds_ne hne⟩
theorem Kept.trans (h : Kept w w1 T) {T' : Nat → Prop} (h' : Kept w1 w2 T') (ht : ∀ g, T' g → T g ∨ w.heap.size ≤ g) : Kept w w2 T :=
  ⟨h'.os.trans h.os, h'.tape.trans h.tape, h'.output.trans h.output, Nat.le_trans h.size h'.size, fun k hk hT => by
    rw [h'.block k (Nat.lt_of_lt_of_le hk h.size) (fun e => by rcases ht k e with h1 | h1; exact hT h1; omega)]; exact h.block k hk hT⟩
theorem Kept.below (h : Kept w w1 T) {B : Nat} (hB : B ≤ w.heap.size) (ht : ∀ g, T g → B ≤ g) : Below B w w1 :=
  ⟨h.os, h.tape, h.output, h.size, fun k hk => h.block k (by omega) (fun e => by have := ht k e; omega)⟩
theorem Kept.cell (h : Kept w w1 T) {p : Addr} (hp : p.block < w.heap.size) (hn : ¬ T p.block) : w1.cell? p = w.cell? p := World.cell?_of_block (w := w) (h.block p.block hp hn)
theorem Kept.froz (h : Kept w w1 T) {p : Addr} (hp : p.block < w.heap.size) (hn : ¬ T p.block) : w1.frozen? p = w.frozen? p := World.frozen?_of_block (w := w) (h.block p.block hp hn)
theorem Kept.own (h : Kept w w1 T) {base : Nat} {e : TypeId} {size : Nat} {v : Value} {n : Nat} {xs : List Value} (ho : w.ownsRow base e size v n xs) (hn : ∀ g, v.ownBlock = some g → ¬ T g) : w1.ownsRow base e size v n xs := by
  obtain ⟨h1, h2⟩ := ho
  refine ⟨h1, h2.imp id ?_⟩
  rintro ⟨g, cap, cur, rfl, hb, hg, r⟩
  have hlt : g < w.heap.size := by
    rcases Nat.lt_or_ge g w.heap.size with h' | h'
    · exact h'
    · rw [Array.getElem?_eq_none h'] at hg; cases hg
  exact ⟨g, cap, cur, rfl, hb, (h.block g hlt (hn g rfl)).trans hg, r⟩
end

theorem set_ne (W : World) (b o : Nat) (v : Value) (b' o' : Nat) (h : b ≠ b' ∨ o ≠ o') : (W.setCell ⟨b, o, none⟩ v).cell? ⟨b', o', none⟩ = W.cell? ⟨b', o', none⟩ :=
  World.cell?_setCell_other _ _ _ _ (fun e => by injection e with e1 e2; rcases h with h | h; exact h e1; exact h e2)

def ptr (b : Nat) : Value := .pointer (some ⟨b, 0, none⟩)
def nil : Value := .pointer none

/-- The values that can change. -/
structure St where
  tq : Value
  wt : Value
  i1 : Value
  i2 : Value
  ic : Value
  hd : Value
  tl : Value
  rp : Value
  rn : Value
  op : Value
  oq : Value
  pv : Nat → Value
  nx : Nat → Value
  ip : Nat → Value
  iq : Nat → Value
  mp : Nat → Obj

/-- The blocks' order. -/
structure Ord (B tB rB oB gq S : Nat) : Prop where
  a : tB < rB
  b : rB < gq
  c : gq < S
  d : oB < gq
  e : oB ≠ tB
  f : oB ≠ rB
  g : B ≤ tB
  h : B ≤ oB

/-- m nodes lie in W. -/
structure Lay (tB rB oB gq S m : Nat) (bh : Bool) (s : St) (W : World) : Prop where
  size : S + 3 * m ≤ W.heap.size
  t7 : W.cell? ⟨tB, 7, none⟩ = some s.tq
  t15 : W.cell? ⟨tB, 15, none⟩ = some s.wt
  t89 : W.cell? ⟨tB, 89, none⟩ = some s.i1
  t90 : W.cell? ⟨tB, 90, none⟩ = some s.i2
  t91 : W.cell? ⟨tB, 91, none⟩ = some s.ic
  r1 : W.cell? ⟨rB, 1, none⟩ = some (.string ⟨#[114]⟩)
  r8 : W.cell? ⟨rB, 8, none⟩ = some (.pointer none)
  r10 : W.cell? ⟨rB, 10, none⟩ = some s.hd
  r11 : W.cell? ⟨rB, 11, none⟩ = some s.tl
  r13 : W.cell? ⟨rB, 13, none⟩ = some s.rp
  r14 : W.cell? ⟨rB, 14, none⟩ = some s.rn
  o13 : bh = true → W.cell? ⟨oB, 13, none⟩ = some s.op
  o14 : bh = true → W.cell? ⟨oB, 14, none⟩ = some s.oq
  q : ∀ j, j < m → W.cell? ⟨gq, j, none⟩ = some (ptr (S + 3 * j + 2))
  n1 : ∀ j, j < m → W.cell? ⟨S + 3 * j + 2, 1, none⟩ = some (ptr (S + 3 * j + 1))
  n2 : ∀ j, j < m → W.cell? ⟨S + 3 * j + 2, 2, none⟩ = some (ptr rB)
  n5 : ∀ j, j < m → W.cell? ⟨S + 3 * j + 2, 5, none⟩ = some (.pointer none)
  n20 : ∀ j, j < m → W.cell? ⟨S + 3 * j + 2, 20, none⟩ = some (s.pv j)
  n21 : ∀ j, j < m → W.cell? ⟨S + 3 * j + 2, 21, none⟩ = some (s.nx j)
  w2 : ∀ j, j < m → W.cell? ⟨S + 3 * j + 1, 2, none⟩ = some (.pointer none)
  w3 : ∀ j, j < m → W.cell? ⟨S + 3 * j + 1, 3, none⟩ = some (.pointer none)
  w4 : ∀ j, j < m → W.cell? ⟨S + 3 * j + 1, 4, none⟩ = some (.map (some (S + 3 * j)))
  w10 : ∀ j, j < m → W.cell? ⟨S + 3 * j + 1, 10, none⟩ = some (s.ip j)
  w11 : ∀ j, j < m → W.cell? ⟨S + 3 * j + 1, 11, none⟩ = some (s.iq j)
  mp : ∀ j, j < m → W.heap[S + 3 * j]? = some (s.mp j)
  fr : ∀ b o, tB ≤ b → b < S + 3 * m → W.frozen? ⟨b, o, none⟩ = false
  fo : ∀ o, W.frozen? ⟨oB, o, none⟩ = false

variable {B tB rB oB gq S m : Nat} {bh : Bool} {s : St} {W W' : World}

/-- Kept where nothing of it is touched. -/
theorem Lay.kept (h : Lay tB rB oB gq S m bh s W) (ho : Ord B tB rB oB gq S) {T : Nat → Prop} (hk : Kept W W' T) (hT : ∀ g, T g → S + 3 * m ≤ g) : Lay tB rB oB gq S m bh s W' := by
  obtain ⟨oa, ob, oc, od, oe, of, og, oh⟩ := ho
  have hz := h.size
  have nT : ∀ g, g < S + 3 * m → ¬ T g := fun g hg e => by have := hT g e; omega
  have k : ∀ b o, b < S + 3 * m → W'.cell? ⟨b, o, none⟩ = W.cell? ⟨b, o, none⟩ := fun b o hb => hk.cell (p := ⟨b, o, none⟩) (by show b < _; omega) (nT _ hb)
  exact ⟨Nat.le_trans h.size hk.size, (k _ _ (by omega)).trans h.t7, (k _ _ (by omega)).trans h.t15, (k _ _ (by omega)).trans h.t89, (k _ _ (by omega)).trans h.t90, (k _ _ (by omega)).trans h.t91,
    (k _ _ (by omega)).trans h.r1, (k _ _ (by omega)).trans h.r8, (k _ _ (by omega)).trans h.r10, (k _ _ (by omega)).trans h.r11, (k _ _ (by omega)).trans h.r13, (k _ _ (by omega)).trans h.r14,
    fun e => (k _ _ (by omega)).trans (h.o13 e), fun e => (k _ _ (by omega)).trans (h.o14 e), fun j hj => (k _ _ (by omega)).trans (h.q j hj),
    fun j hj => (k _ _ (by omega)).trans (h.n1 j hj), fun j hj => (k _ _ (by omega)).trans (h.n2 j hj), fun j hj => (k _ _ (by omega)).trans (h.n5 j hj), fun j hj => (k _ _ (by omega)).trans (h.n20 j hj), fun j hj => (k _ _ (by omega)).trans (h.n21 j hj),
    fun j hj => (k _ _ (by omega)).trans (h.w2 j hj), fun j hj => (k _ _ (by omega)).trans (h.w3 j hj), fun j hj => (k _ _ (by omega)).trans (h.w4 j hj), fun j hj => (k _ _ (by omega)).trans (h.w10 j hj), fun j hj => (k _ _ (by omega)).trans (h.w11 j hj),
    fun j hj => (hk.block _ (by omega) (nT _ (by omega))).trans (h.mp j hj),
    fun b o h1 h2 => (hk.froz (p := ⟨b, o, none⟩) (by show b < _; omega) (nT _ h2)).trans (h.fr b o h1 h2),
    fun o => (hk.froz (p := ⟨oB, o, none⟩) (by show oB < _; omega) (nT oB (by omega))).trans (h.fo o)⟩

/-- A store in the table. -/
theorem Lay.setT (h : Lay tB rB oB gq S m bh s W) (ho : Ord B tB rB oB gq S) (o : Nat) (v : Value) :
    Lay tB rB oB gq S m bh { s with tq := if o = 7 then v else s.tq, wt := if o = 15 then v else s.wt, i1 := if o = 89 then v else s.i1, i2 := if o = 90 then v else s.i2, ic := if o = 91 then v else s.ic } (W.setCell ⟨tB, o, none⟩ v) := by
  obtain ⟨oa, ob, oc, od, oe, of, og, oh⟩ := ho
  have k : ∀ b o', b ≠ tB → (W.setCell ⟨tB, o, none⟩ v).cell? ⟨b, o', none⟩ = W.cell? ⟨b, o', none⟩ := fun b o' hb => set_ne W _ _ v _ _ (.inl hb.symm)
  have f : ∀ (n : Nat) (u : Value), W.cell? ⟨tB, n, none⟩ = some u → (W.setCell ⟨tB, o, none⟩ v).cell? ⟨tB, n, none⟩ = some (if o = n then v else u) := fun n u hu => by
    by_cases e : o = n
    · subst e; rw [if_pos rfl]; exact World.cell?_setCell_same _ _ _ hu
    · rw [if_neg e, set_ne W _ _ v _ _ (.inr e)]; exact hu
  exact ⟨by simpa [World.setCell] using h.size, f _ _ h.t7, f _ _ h.t15, f _ _ h.t89, f _ _ h.t90, f _ _ h.t91,
    (k _ _ (by omega)).trans h.r1, (k _ _ (by omega)).trans h.r8, (k _ _ (by omega)).trans h.r10, (k _ _ (by omega)).trans h.r11, (k _ _ (by omega)).trans h.r13, (k _ _ (by omega)).trans h.r14,
    fun e => (k _ _ (by omega)).trans (h.o13 e), fun e => (k _ _ (by omega)).trans (h.o14 e), fun j hj => (k _ _ (by omega)).trans (h.q j hj),
    fun j hj => (k _ _ (by omega)).trans (h.n1 j hj), fun j hj => (k _ _ (by omega)).trans (h.n2 j hj), fun j hj => (k _ _ (by omega)).trans (h.n5 j hj), fun j hj => (k _ _ (by omega)).trans (h.n20 j hj), fun j hj => (k _ _ (by omega)).trans (h.n21 j hj),
    fun j hj => (k _ _ (by omega)).trans (h.w2 j hj), fun j hj => (k _ _ (by omega)).trans (h.w3 j hj), fun j hj => (k _ _ (by omega)).trans (h.w4 j hj), fun j hj => (k _ _ (by omega)).trans (h.w10 j hj), fun j hj => (k _ _ (by omega)).trans (h.w11 j hj),
    fun j hj => (Below.heap_setCell W _ v _ (by show S + 3 * j ≠ tB; omega)).trans (h.mp j hj),
    fun b o' h1 h2 => by rw [World.frozen?_setCell]; exact h.fr b o' h1 h2, fun o' => by rw [World.frozen?_setCell]; exact h.fo o'⟩

/-- A store in the resource. -/
theorem Lay.setR (h : Lay tB rB oB gq S m bh s W) (ho : Ord B tB rB oB gq S) (o : Nat) (v : Value) (h1 : o ≠ 1) (h8 : o ≠ 8) :
    Lay tB rB oB gq S m bh { s with hd := if o = 10 then v else s.hd, tl := if o = 11 then v else s.tl, rp := if o = 13 then v else s.rp, rn := if o = 14 then v else s.rn } (W.setCell ⟨rB, o, none⟩ v) := by
  obtain ⟨oa, ob, oc, od, oe, of, og, oh⟩ := ho
  have k : ∀ b o', b ≠ rB → (W.setCell ⟨rB, o, none⟩ v).cell? ⟨b, o', none⟩ = W.cell? ⟨b, o', none⟩ := fun b o' hb => set_ne W _ _ v _ _ (.inl hb.symm)
  have f : ∀ (n : Nat) (u : Value), W.cell? ⟨rB, n, none⟩ = some u → (W.setCell ⟨rB, o, none⟩ v).cell? ⟨rB, n, none⟩ = some (if o = n then v else u) := fun n u hu => by
    by_cases e : o = n
    · subst e; rw [if_pos rfl]; exact World.cell?_setCell_same _ _ _ hu
    · rw [if_neg e, set_ne W _ _ v _ _ (.inr e)]; exact hu
  exact ⟨by simpa [World.setCell] using h.size, (k _ _ (by omega)).trans h.t7, (k _ _ (by omega)).trans h.t15, (k _ _ (by omega)).trans h.t89, (k _ _ (by omega)).trans h.t90, (k _ _ (by omega)).trans h.t91,
    (set_ne W _ _ v _ _ (.inr h1)).trans h.r1, (set_ne W _ _ v _ _ (.inr h8)).trans h.r8, f _ _ h.r10, f _ _ h.r11, f _ _ h.r13, f _ _ h.r14,
    fun e => (k _ _ (by omega)).trans (h.o13 e), fun e => (k _ _ (by omega)).trans (h.o14 e), fun j hj => (k _ _ (by omega)).trans (h.q j hj),
    fun j hj => (k _ _ (by omega)).trans (h.n1 j hj), fun j hj => (k _ _ (by omega)).trans (h.n2 j hj), fun j hj => (k _ _ (by omega)).trans (h.n5 j hj), fun j hj => (k _ _ (by omega)).trans (h.n20 j hj), fun j hj => (k _ _ (by omega)).trans (h.n21 j hj),
    fun j hj => (k _ _ (by omega)).trans (h.w2 j hj), fun j hj => (k _ _ (by omega)).trans (h.w3 j hj), fun j hj => (k _ _ (by omega)).trans (h.w4 j hj), fun j hj => (k _ _ (by omega)).trans (h.w10 j hj), fun j hj => (k _ _ (by omega)).trans (h.w11 j hj),
    fun j hj => (Below.heap_setCell W _ v _ (by show S + 3 * j ≠ rB; omega)).trans (h.mp j hj),
    fun b o' h1 h2 => by rw [World.frozen?_setCell]; exact h.fr b o' h1 h2, fun o' => by rw [World.frozen?_setCell]; exact h.fo o'⟩

/-- A store in the other resource. -/
theorem Lay.setO (h : Lay tB rB oB gq S m bh s W) (ho : Ord B tB rB oB gq S) (o : Nat) (v : Value) :
    Lay tB rB oB gq S m bh { s with op := if o = 13 then v else s.op, oq := if o = 14 then v else s.oq } (W.setCell ⟨oB, o, none⟩ v) := by
  obtain ⟨oa, ob, oc, od, oe, of, og, oh⟩ := ho
  have k : ∀ b o', b ≠ oB → (W.setCell ⟨oB, o, none⟩ v).cell? ⟨b, o', none⟩ = W.cell? ⟨b, o', none⟩ := fun b o' hb => set_ne W _ _ v _ _ (.inl hb.symm)
  have f : ∀ (n : Nat) (u : Value), W.cell? ⟨oB, n, none⟩ = some u → (W.setCell ⟨oB, o, none⟩ v).cell? ⟨oB, n, none⟩ = some (if o = n then v else u) := fun n u hu => by
    by_cases e : o = n
    · subst e; rw [if_pos rfl]; exact World.cell?_setCell_same _ _ _ hu
    · rw [if_neg e, set_ne W _ _ v _ _ (.inr e)]; exact hu
  exact ⟨by simpa [World.setCell] using h.size, (k _ _ (by omega)).trans h.t7, (k _ _ (by omega)).trans h.t15, (k _ _ (by omega)).trans h.t89, (k _ _ (by omega)).trans h.t90, (k _ _ (by omega)).trans h.t91,
    (k _ _ (by omega)).trans h.r1, (k _ _ (by omega)).trans h.r8, (k _ _ (by omega)).trans h.r10, (k _ _ (by omega)).trans h.r11, (k _ _ (by omega)).trans h.r13, (k _ _ (by omega)).trans h.r14,
    fun e => f _ _ (h.o13 e), fun e => f _ _ (h.o14 e), fun j hj => (k _ _ (by omega)).trans (h.q j hj),
    fun j hj => (k _ _ (by omega)).trans (h.n1 j hj), fun j hj => (k _ _ (by omega)).trans (h.n2 j hj), fun j hj => (k _ _ (by omega)).trans (h.n5 j hj), fun j hj => (k _ _ (by omega)).trans (h.n20 j hj), fun j hj => (k _ _ (by omega)).trans (h.n21 j hj),
    fun j hj => (k _ _ (by omega)).trans (h.w2 j hj), fun j hj => (k _ _ (by omega)).trans (h.w3 j hj), fun j hj => (k _ _ (by omega)).trans (h.w4 j hj), fun j hj => (k _ _ (by omega)).trans (h.w10 j hj), fun j hj => (k _ _ (by omega)).trans (h.w11 j hj),
    fun j hj => (Below.heap_setCell W _ v _ (by show S + 3 * j ≠ oB; omega)).trans (h.mp j hj),
    fun b o' h1 h2 => by rw [World.frozen?_setCell]; exact h.fr b o' h1 h2, fun o' => by rw [World.frozen?_setCell]; exact h.fo o'⟩

/-- A store in a request's links (20: prev, 21: next). -/
theorem Lay.setN (h : Lay tB rB oB gq S m bh s W) (ho : Ord B tB rB oB gq S) (i o : Nat) (v : Value) (h1 : o ≠ 1) (h2 : o ≠ 2) (h5 : o ≠ 5) :
    Lay tB rB oB gq S m bh { s with pv := fun j => if j = i ∧ o = 20 then v else s.pv j, nx := fun j => if j = i ∧ o = 21 then v else s.nx j } (W.setCell ⟨S + 3 * i + 2, o, none⟩ v) := by
  obtain ⟨oa, ob, oc, od, oe, of, og, oh⟩ := ho
  have k : ∀ b o', b ≠ S + 3 * i + 2 → (W.setCell ⟨S + 3 * i + 2, o, none⟩ v).cell? ⟨b, o', none⟩ = W.cell? ⟨b, o', none⟩ := fun b o' hb => set_ne W _ _ v _ _ (.inl hb.symm)
  have f : ∀ (n j : Nat) (u : Value), W.cell? ⟨S + 3 * j + 2, n, none⟩ = some u → (W.setCell ⟨S + 3 * i + 2, o, none⟩ v).cell? ⟨S + 3 * j + 2, n, none⟩ = some (if j = i ∧ o = n then v else u) := fun n j u hu => by
    by_cases e : j = i ∧ o = n
    · obtain ⟨rfl, rfl⟩ := e; rw [if_pos ⟨rfl, rfl⟩]; exact World.cell?_setCell_same _ _ _ hu
    · rw [if_neg e, set_ne W _ _ v _ _ (by omega)]; exact hu
  exact ⟨by simpa [World.setCell] using h.size, (k _ _ (by omega)).trans h.t7, (k _ _ (by omega)).trans h.t15, (k _ _ (by omega)).trans h.t89, (k _ _ (by omega)).trans h.t90, (k _ _ (by omega)).trans h.t91,
    (k _ _ (by omega)).trans h.r1, (k _ _ (by omega)).trans h.r8, (k _ _ (by omega)).trans h.r10, (k _ _ (by omega)).trans h.r11, (k _ _ (by omega)).trans h.r13, (k _ _ (by omega)).trans h.r14,
    fun e => (k _ _ (by omega)).trans (h.o13 e), fun e => (k _ _ (by omega)).trans (h.o14 e), fun j hj => (k _ _ (by omega)).trans (h.q j hj),
    fun j hj => (set_ne W _ _ v _ _ (.inr h1)).trans (h.n1 j hj), fun j hj => (set_ne W _ _ v _ _ (.inr h2)).trans (h.n2 j hj), fun j hj => (set_ne W _ _ v _ _ (.inr h5)).trans (h.n5 j hj), fun j hj => f _ _ _ (h.n20 j hj), fun j hj => f _ _ _ (h.n21 j hj),
    fun j hj => (k _ _ (by omega)).trans (h.w2 j hj), fun j hj => (k _ _ (by omega)).trans (h.w3 j hj), fun j hj => (k _ _ (by omega)).trans (h.w4 j hj), fun j hj => (k _ _ (by omega)).trans (h.w10 j hj), fun j hj => (k _ _ (by omega)).trans (h.w11 j hj),
    fun j hj => (Below.heap_setCell W _ v _ (by show S + 3 * j ≠ S + 3 * i + 2; omega)).trans (h.mp j hj),
    fun b o' h1 h2 => by rw [World.frozen?_setCell]; exact h.fr b o' h1 h2, fun o' => by rw [World.frozen?_setCell]; exact h.fo o'⟩

/-- A store in an owner's idle links (10, 11). -/
theorem Lay.setW (h : Lay tB rB oB gq S m bh s W) (ho : Ord B tB rB oB gq S) (i o : Nat) (v : Value) (h2 : o ≠ 2) (h3 : o ≠ 3) (h4 : o ≠ 4) :
    Lay tB rB oB gq S m bh { s with ip := fun j => if j = i ∧ o = 10 then v else s.ip j, iq := fun j => if j = i ∧ o = 11 then v else s.iq j } (W.setCell ⟨S + 3 * i + 1, o, none⟩ v) := by
  obtain ⟨oa, ob, oc, od, oe, of, og, oh⟩ := ho
  have k : ∀ b o', b ≠ S + 3 * i + 1 → (W.setCell ⟨S + 3 * i + 1, o, none⟩ v).cell? ⟨b, o', none⟩ = W.cell? ⟨b, o', none⟩ := fun b o' hb => set_ne W _ _ v _ _ (.inl hb.symm)
  have f : ∀ (n j : Nat) (u : Value), W.cell? ⟨S + 3 * j + 1, n, none⟩ = some u → (W.setCell ⟨S + 3 * i + 1, o, none⟩ v).cell? ⟨S + 3 * j + 1, n, none⟩ = some (if j = i ∧ o = n then v else u) := fun n j u hu => by
    by_cases e : j = i ∧ o = n
    · obtain ⟨rfl, rfl⟩ := e; rw [if_pos ⟨rfl, rfl⟩]; exact World.cell?_setCell_same _ _ _ hu
    · rw [if_neg e, set_ne W _ _ v _ _ (by omega)]; exact hu
  exact ⟨by simpa [World.setCell] using h.size, (k _ _ (by omega)).trans h.t7, (k _ _ (by omega)).trans h.t15, (k _ _ (by omega)).trans h.t89, (k _ _ (by omega)).trans h.t90, (k _ _ (by omega)).trans h.t91,
    (k _ _ (by omega)).trans h.r1, (k _ _ (by omega)).trans h.r8, (k _ _ (by omega)).trans h.r10, (k _ _ (by omega)).trans h.r11, (k _ _ (by omega)).trans h.r13, (k _ _ (by omega)).trans h.r14,
    fun e => (k _ _ (by omega)).trans (h.o13 e), fun e => (k _ _ (by omega)).trans (h.o14 e), fun j hj => (k _ _ (by omega)).trans (h.q j hj),
    fun j hj => (k _ _ (by omega)).trans (h.n1 j hj), fun j hj => (k _ _ (by omega)).trans (h.n2 j hj), fun j hj => (k _ _ (by omega)).trans (h.n5 j hj), fun j hj => (k _ _ (by omega)).trans (h.n20 j hj), fun j hj => (k _ _ (by omega)).trans (h.n21 j hj),
    fun j hj => (set_ne W _ _ v _ _ (.inr h2)).trans (h.w2 j hj), fun j hj => (set_ne W _ _ v _ _ (.inr h3)).trans (h.w3 j hj), fun j hj => (set_ne W _ _ v _ _ (.inr h4)).trans (h.w4 j hj), fun j hj => f _ _ _ (h.w10 j hj), fun j hj => f _ _ _ (h.w11 j hj),
    fun j hj => (Below.heap_setCell W _ v _ (by show S + 3 * j ≠ S + 3 * i + 1; omega)).trans (h.mp j hj),
    fun b o' h1 h2 => by rw [World.frozen?_setCell]; exact h.fr b o' h1 h2, fun o' => by rw [World.frozen?_setCell]; exact h.fo o'⟩

/-- A map turned. -/
theorem Lay.setM (h : Lay tB rB oB gq S m bh s W) (ho : Ord B tB rB oB gq S) (i : Nat) (hi : i < m) (es : Array MapEntry) (c : Nat) :
    Lay tB rB oB gq S m bh { s with mp := fun j => if j = i then .map es c else s.mp j } { W with heap := W.heap.setIfInBounds (S + 3 * i) (.map es c) } := by
  obtain ⟨oa, ob, oc, od, oe, of, og, oh⟩ := ho
  have hz := h.size
  have hh : ∀ b, b ≠ S + 3 * i → ({ W with heap := W.heap.setIfInBounds (S + 3 * i) (.map es c) } : World).heap[b]? = W.heap[b]? := fun b hb => Array.getElem?_setIfInBounds_ne hb.symm
  have k : ∀ b o', b ≠ S + 3 * i → ({ W with heap := W.heap.setIfInBounds (S + 3 * i) (.map es c) } : World).cell? ⟨b, o', none⟩ = W.cell? ⟨b, o', none⟩ := fun b o' hb => World.cell?_of_block (w := W) (hh b hb)
  exact ⟨by simpa using h.size, (k _ _ (by omega)).trans h.t7, (k _ _ (by omega)).trans h.t15, (k _ _ (by omega)).trans h.t89, (k _ _ (by omega)).trans h.t90, (k _ _ (by omega)).trans h.t91,
    (k _ _ (by omega)).trans h.r1, (k _ _ (by omega)).trans h.r8, (k _ _ (by omega)).trans h.r10, (k _ _ (by omega)).trans h.r11, (k _ _ (by omega)).trans h.r13, (k _ _ (by omega)).trans h.r14,
    fun e => (k _ _ (by omega)).trans (h.o13 e), fun e => (k _ _ (by omega)).trans (h.o14 e), fun j hj => (k _ _ (by omega)).trans (h.q j hj),
    fun j hj => (k _ _ (by omega)).trans (h.n1 j hj), fun j hj => (k _ _ (by omega)).trans (h.n2 j hj), fun j hj => (k _ _ (by omega)).trans (h.n5 j hj), fun j hj => (k _ _ (by omega)).trans (h.n20 j hj), fun j hj => (k _ _ (by omega)).trans (h.n21 j hj),
    fun j hj => (k _ _ (by omega)).trans (h.w2 j hj), fun j hj => (k _ _ (by omega)).trans (h.w3 j hj), fun j hj => (k _ _ (by omega)).trans (h.w4 j hj), fun j hj => (k _ _ (by omega)).trans (h.w10 j hj), fun j hj => (k _ _ (by omega)).trans (h.w11 j hj),
    fun j hj => by
      show (W.heap.setIfInBounds (S + 3 * i) (.map es c))[S + 3 * j]? = some (if j = i then .map es c else s.mp j)
      by_cases e : j = i
      · subst e
        rw [if_pos rfl]
        rw [Array.getElem?_setIfInBounds_self_of_lt (by omega)]
      · rw [if_neg e]; exact (hh (S + 3 * j) (by omega)).trans (h.mp j hj),
    fun b o' h1 h2 => by
      by_cases e : b = S + 3 * i
      · subst e
        show World.frozen? _ _ = _
        have : ({ W with heap := W.heap.setIfInBounds (S + 3 * i) (.map es c) } : World).heap[S + 3 * i]? = some (.map es c) := Array.getElem?_setIfInBounds_self_of_lt (by omega)
        simp only [World.frozen?, this]
      · exact (World.frozen?_of_block (w := W) (hh b e)).trans (h.fr b o' h1 h2),
    fun o' => (World.frozen?_of_block (w := W) (a := ⟨oB, o', none⟩) (hh oB (by omega))).trans (h.fo o')⟩
end Go.Proofs.Ybulkbhha
