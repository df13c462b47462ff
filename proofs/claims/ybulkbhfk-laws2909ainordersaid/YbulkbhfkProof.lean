/- THE ROW OF LawS2909AInOrder over its walk (YbulkbhfkLaw.lean); the frame after the guide. -/
import Derived.Test.YbulkbhfkRows
import Derived.Test.YbulkbhfkLaw
import Derived.WalkKit
import Derived.ProofKit
import Derived.OpenShut
import Derived.ShutString
import Derived.ChangeOld
import Derived.Below
import Derived.SizedLaws
import Derived.SliceStrings
import Derived.ChangeSlices
import Derived.Deep.Grids
namespace Go.Proofs.Ybulkbhfk.lawS2909AInOrder
open Go.ChangeShapes Go.WideShapes Go.ChangeAt Go.RowKit
set_option linter.unusedVariables false

theorem own : ownKnob Yba.prog.godebug = none := by kernel_rfl
theorem laidOut : laidOutB Yba.prog = true := by kernel_rfl

theorem cells_of {w : World} {x : Addr} {n : Nat} {f : Nat → Value} (h : ∀ i, i < n → w.cell? (x.add i) = some (f i)) : Cells w (some x) n f := fun hn => by
  have h0 := h 0 hn
  obtain ⟨b, o, sp⟩ := x
  have hs : sp = none := by
    simp only [Addr.add, if_true, World.cell?] at h0
    cases sp with
    | none => rfl
    | some k => split at h0 <;> simp at h0
  subst hs
  refine ⟨b, o, rfl, World.block_lt_of_cell? w _ h0, fun i hi => ?_⟩
  have := h i hi
  by_cases hz : i = 0
  · subst hz; exact this
  · simpa [Addr.add, hz] using this

theorem cells_none {w : World} {f : Nat → Value} : Cells w none 0 f := fun h => absurd h (Nat.lt_irrefl _)

/-! ### THE ROW's STEP: WRITTEN OUT -/
set_option maxRecDepth 100000 in
theorem lifted (os : Os) (started : os.Started) (H : Type) (enc : TypeId × Value → H) :
    ReturnsInHanded {} Yba.checked os 3 .any (Rows.lawS2909AInOrderSpec.pre6 enc Yba.prog Yba.f3 Rows.lawS2909AInOrderRow.domain false) (Rows.lawS2909AInOrderSpec.post enc Yba.prog Yba.f3 false true false false) := by
  refine returnsInHanded_of_change_sized (C := Yba.checked) own started (by kernel_rfl) Yba.func3
    (ChangeSpec.witness6 (enc := enc) (C := Yba.checked) false ⟨#[], #[.slice none 0 0, .slice none 0 0, .slice none 0 0, .slice none 0 0], []⟩ 8 (by kernel_rfl) (by kernel_rfl) (by kernel_rfl) (by kernel_rfl)) ?_
  intro W base args ds gs before hval0 hW hcnd hz _
  have hval : ∀ (j : Nat) t v, Yba.f3.params[j]? = some t → args[j]? = some v → Value.okWide Yba.prog W .any base t v := hval0
  have hW' := hW
  obtain ⟨p, q, hA0, hV, rfl, hfz, hnd⟩ := hW
  have hA : DataW.TrodAll enc Yba.prog W 0 (fun _ => true) true Yba.f3.params.toList args.toList ds p := hA0
  rw [Yba.params3] at hA hval
  obtain ⟨v0, vs0, d0, ds0, p0, q0, hargs, rfl, rfl, h0, r0⟩ := trodAll_cons hA
  obtain ⟨v1, vs1, d1, ds1, p1, q1, rfl, rfl, rfl, h1, r1⟩ := trodAll_cons r0
  obtain ⟨v2, vs2, d2, ds2, p2, q2, rfl, rfl, rfl, h2, r2⟩ := trodAll_cons r1
  obtain ⟨v3, vs3, d3, ds3, p3, q3, rfl, rfl, rfl, h3, r3⟩ := trodAll_cons r2
  obtain ⟨rfl, rfl, rfl⟩ := trodAll_nil r3
  obtain rfl : args = #[v0, v1, v2, v3] := by cases args; simp_all
  obtain ⟨rfl, rfl⟩ := trodVars_none hV
  obtain ⟨a0, n, c0, rfl⟩ := okWide_slice Yba.underlying22 (hval 0 22 v0 rfl rfl)
  obtain ⟨a1, l1, c1, rfl⟩ := okWide_slice Yba.underlying23 (hval 1 23 v1 rfl rfl)
  obtain ⟨a2, l2, c2, rfl⟩ := okWide_slice Yba.underlying24 (hval 2 24 v2 rfl rfl)
  obtain ⟨a3, l3, c3, rfl⟩ := okWide_slice Yba.underlying25 (hval 3 25 v3 rfl rfl)
  have k0 := h0
  have k1 := h1
  have k2 := h2
  have k3 := h3
  have lt0 : ∀ x ∈ p0, x.block < W.heap.size := by obtain ⟨m, hm⟩ := k0; exact DataW.trod_lt m _ _ _ hm
  have lt1 : ∀ x ∈ p1, x.block < W.heap.size := by obtain ⟨m, hm⟩ := k1; exact DataW.trod_lt m _ _ _ hm
  have lt2 : ∀ x ∈ p2, x.block < W.heap.size := by obtain ⟨m, hm⟩ := k2; exact DataW.trod_lt m _ _ _ hm
  have lt3 : ∀ x ∈ p3, x.block < W.heap.size := by obtain ⟨m, hm⟩ := k3; exact DataW.trod_lt m _ _ _ hm
  obtain ⟨nm, hm0, w0⟩ : ∃ nm : Nat → ByteArray, n ≤ maxLen ∧ Cells W a0 n (fun i => .string (nm i)) := by
    obtain ⟨fuel, hf⟩ := h0
    rcases Go.ChangeShapes.open_strings Yba.underlying22 Yba.underlying9 (by kernel_rfl) hf with ⟨hcs, _⟩ | ⟨x, l, c, ss, hcs, _, hl, hm, hzz, _, hcell, _⟩
    · simp [Value.cells] at hcs
      obtain ⟨rfl, rfl, rfl⟩ := hcs
      exact ⟨fun _ => ByteArray.empty, Nat.zero_le _, cells_none⟩
    · simp [Value.cells] at hcs
      obtain ⟨rfl, rfl, rfl⟩ := hcs
      exact ⟨fun i => ss.getD i ByteArray.empty, Nat.le_trans hl hm, cells_of fun i hi => hcell i (by rw [hzz]; simp; omega)⟩
  obtain ⟨mb, hm1, w1⟩ : ∃ mb : Nat → Bool, l1 ≤ maxLen ∧ Cells W a1 l1 (fun i => .bool (mb i)) := by
    obtain ⟨fuel, hf⟩ := h1
    rcases Go.Deep.open_bools Yba.underlying23 Yba.underlying4 (by kernel_rfl) hf with ⟨hcs, _⟩ | ⟨x, l, c, Bb, hcs, _, hl, hm, _, hcell⟩
    · simp [Value.cells] at hcs
      obtain ⟨rfl, rfl, rfl⟩ := hcs
      exact ⟨fun _ => true, Nat.zero_le _, cells_none⟩
    · simp [Value.cells] at hcs
      obtain ⟨rfl, rfl, rfl⟩ := hcs
      exact ⟨Bb, Nat.le_trans hl hm, cells_of fun i hi => hcell i (by omega)⟩
  obtain ⟨sv, hm2, w2, hsv⟩ : ∃ sv : Nat → Int, l2 ≤ maxLen ∧ Cells W a2 l2 (fun i => .int .u64 (sv i)) ∧ ∀ i, i < l2 → (Lit.int .u64 (sv i)).wf = true := by
    obtain ⟨fuel, hf⟩ := h2
    rcases open_ints Yba.underlying24 Yba.underlying33 (by kernel_rfl) hf with ⟨hcs, _⟩ | ⟨x, l, c, zs, hcs, _, hl, hm, hzz, _, hcell, hwz⟩
    · simp [Value.cells] at hcs
      obtain ⟨rfl, rfl, rfl⟩ := hcs
      exact ⟨fun _ => 0, Nat.zero_le _, cells_none, fun i hi => absurd hi (Nat.not_lt_zero _)⟩
    · simp [Value.cells] at hcs
      obtain ⟨rfl, rfl, rfl⟩ := hcs
      have hzl : zs.length = c2 := by simpa using hzz
      refine ⟨fun i => zs.getD i 0, Nat.le_trans hl hm, cells_of fun i hi => hcell i (by omega), fun i hi => hwz _ ?_⟩
      have hi' : i < zs.length := by omega
      simp only [List.getD, List.getElem?_eq_getElem hi', Option.getD_some]
      exact List.getElem_mem hi'
  obtain ⟨pl, hpl, hpb, w3⟩ : ∃ pl : List UInt8, pl.length = l3 ∧ l3 ≤ 140737488351232 ∧ Cells W a3 pl.length (fun i => .int .u8 ((pl.getD i 0).toNat : Int)) := by
    obtain ⟨fuel, hf⟩ := h3
    rcases open_ints Yba.underlying25 Yba.underlying5 (by kernel_rfl) hf with ⟨hcs, _⟩ | ⟨x, l, c, zs, hcs, _, hl, hm, hzz, hx, hcell, hwz⟩
    · simp [Value.cells] at hcs
      obtain ⟨rfl, rfl, rfl⟩ := hcs
      exact ⟨[], rfl, Nat.zero_le _, cells_none⟩
    · simp [Value.cells] at hcs
      obtain ⟨rfl, rfl, rfl⟩ := hcs
      have hzl : zs.length = c3 := by simpa using hzz
      obtain ⟨rfl, _⟩ := Prod.mk.inj hx
      have hw := sized_slice hz (j := 3) (t := 25) (e := 5) rfl rfl Yba.underlying25
      have hb5 : Yba.checked.prog.bytesOf 5 = 1 := by kernel_rfl
      rw [hb5] at hw
      have hln : ((zs.take l3).map fun z => z.toNat.toUInt8).length = l3 := by simp; omega
      refine ⟨(zs.take l3).map fun z => z.toNat.toUInt8, hln, ?_, ?_⟩
      · simp [lits, reachBytes] at hw; omega
      · rw [hln]
        refine cells_of fun i hi => ?_
        have hi' : i < zs.length := by omega
        rw [hcell i hi']
        have hg : zs.getD i 0 = zs[i] := by simp [List.getD, hi']
        have hb := bounds_u8 (hwz _ (List.getElem_mem hi'))
        have hg2 : ((zs.take l3).map fun z => z.toNat.toUInt8).getD i 0 = zs[i].toNat.toUInt8 := by
          simp [List.getD, hi', hi]
        rw [hg2, hg]
        have : (zs[i].toNat.toUInt8.toNat : Int) = zs[i] := by simp; omega
        rw [this]
  subst hpl
  clear hA0 hval0
  refine (law_walk a0 a1 a2 a3 n c0 l1 c1 l2 c2 c3 nm mb sv pl W w0 w1 w2 w3 hsv hpb hm0 hm1 hm2).mono fun e W' ⟨he, bel⟩ => ?_
  subst he
  exact ⟨_, rfl, _, _, _, [], _, [], hW', trodAll_mk1 (shut_bool Yba.underlying4 _), (trodAll_cons_mk (Below.trod laidOut (by kernel_rfl) (of_decide_eq_true (by kernel_rfl)) k0 bel lt0) (trodAll_cons_mk (Below.trod laidOut (by kernel_rfl) (of_decide_eq_true (by kernel_rfl)) k1 bel lt1) (trodAll_cons_mk (Below.trod laidOut (by kernel_rfl) (of_decide_eq_true (by kernel_rfl)) k2 bel lt2) (trodAll_cons_mk (Below.trod laidOut (by kernel_rfl) (of_decide_eq_true (by kernel_rfl)) k3 bel lt3) trodAll_mk0)))), rfl, bel.frame _, fun h => by cases h⟩

theorem over : Rows.lawS2909AInOrderRow.holds Yba.pinned (OpenSpec.ofChange Rows.lawS2909AInOrderSpec) :=
  OpenClaim.holds_of_wide 3 Yba.f3 rfl rfl rfl rfl rfl rfl rfl ⟨rfl, rfl, rfl, rfl, rfl⟩ rfl rfl rfl rfl rfl (by kernel_rfl) Yba.func3 (by kernel_rfl)
    (of_decide_eq_true (by kernel_rfl)) (by unfold Func.isWrapper; first | (rw [if_pos (by decide +kernel)]; kernel_rfl) | (rw [if_neg (by decide +kernel)]; exact ⟨rfl, rfl⟩))
    (fun os started H enc _ => lifted os started H enc)

/-- ████ THE STATEMENT ████ -/
theorem proved : Rows.LawS2909AInOrderSaid := over
#print axioms proved
end Go.Proofs.Ybulkbhfk.lawS2909AInOrder
