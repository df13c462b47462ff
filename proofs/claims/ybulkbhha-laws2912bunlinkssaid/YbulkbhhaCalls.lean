import Derived.Test.YbulkbhhaMaps
namespace Go.Proofs.Ybulkbhha
open Go.RowKit
variable {B tB rB oB gq S m : Nat} {bh : Bool} {s : St} {W W' : World}

set_option maxHeartbeats 4000000 in
theorem relist_any (h : Lay tB rB oB gq S m bh s W) (ho : Ord B tB rB oB gq S) (hhd : s.hd = .pointer none) (hrn : s.rn = .pointer none) (hrp : s.rp = if bh then ptr oB else .pointer none) :
    Calls Yba.prog 6 #[ptr tB, ptr rB] W fun e W' => e = .returned (.tuple #[]) ∧ Kept W W' (fun g => B ≤ g) ∧
      Lay tB rB oB gq S m bh { s with tq := if bh then s.tq else .pointer none, oq := if bh then .pointer none else s.oq, rp := .pointer none, rn := .pointer none } W' := by
  have HO := hide ho
  have x8 := h.r8
  have x10 := h.r10
  have x13 := h.r13
  have x14 := h.r14
  rw [hhd] at x10
  rw [hrp] at x13
  rw [hrn] at x14
  have hf1 : ∀ o, W.frozen? ⟨tB, o, none⟩ = false := fun o => h.fr _ _ (Nat.le_refl _) (by have := ho.a; have := ho.b; have := ho.c; omega)
  have hf2 : ∀ o, W.frozen? ⟨rB, o, none⟩ = false := fun o => h.fr _ _ (by have := ho.a; omega) (by have := ho.b; have := ho.c; omega)
  have hf3 := h.fo
  have x7 := h.t7
  have k13 : ∀ (v : Value), Kept W (((W.setCell ⟨tB, 7, none⟩ v).setCell ⟨rB, 13, none⟩ (.pointer none)).setCell ⟨rB, 14, none⟩ (.pointer none)) (fun g => B ≤ g) := fun v =>
    (((Kept.refl W _).setCell (.inl (by show B ≤ tB; exact ho.g)) _).setCell (.inl (by show B ≤ rB; have := ho.g; have := ho.a; omega)) _).setCell (.inl (by show B ≤ rB; have := ho.g; have := ho.a; omega)) _
  cases bh
  · simp only [Bool.false_eq_true, if_false] at x13
    have HT := hide (((h.setT ho 7 (.pointer none)).setR ho 13 (.pointer none) (by decide) (by decide)).setR ho 14 (.pointer none) (by decide) (by decide))
    have HK := hide (k13 (.pointer none))
    have y13 : (W.setCell ⟨tB, 7, none⟩ (.pointer none)).cell? ⟨rB, 13, none⟩ = some (.pointer none) := (set_ne W _ _ _ _ _ (.inl (by have := ho.a; omega))).trans x13
    have y14 : (W.setCell ⟨tB, 7, none⟩ (.pointer none)).cell? ⟨rB, 14, none⟩ = some (.pointer none) := (set_ne W _ _ _ _ _ (.inl (by have := ho.a; omega))).trans x14
    clear h ho hhd hrn hrp k13
    unfold ptr
    go_enter Yba.func6, Yba.ntmps6
    go_wp2_with fail
    go_loopw [4] (fun l wr => l = .pointer none ∧ wr = W) (fun _ _ => 0)
    case atStart => exact ⟨rfl, rfl⟩
    case round =>
      obtain ⟨rfl, rfl⟩ := hrel
      go_wp2_with fail
      go_end0
      exact ⟨rfl, HK.out, HT.out⟩
  · simp only [if_true] at x13
    have HT := hide (((h.setO ho 14 (.pointer none)).setR ho 13 (.pointer none) (by decide) (by decide)).setR ho 14 (.pointer none) (by decide) (by decide))
    have z14 := h.o14 rfl
    have HK : Hid (Kept W ((((W.setCell ⟨oB, 14, none⟩ (.pointer none)).drew).setCell ⟨rB, 13, none⟩ (.pointer none)).setCell ⟨rB, 14, none⟩ (.pointer none)) (fun g => B ≤ g)) :=
      ((((Kept.refl W _).setCell (.inl (by show B ≤ oB; exact ho.h)) _).drew).setCell (.inl (by show B ≤ rB; have := ho.g; have := ho.a; omega)) _).setCell (.inl (by show B ≤ rB; have := ho.g; have := ho.a; omega)) _
    have y13 : (W.setCell ⟨oB, 14, none⟩ (.pointer none)).cell? ⟨rB, 13, none⟩ = some (ptr oB) := (set_ne W _ _ _ _ _ (.inl ho.f)).trans x13
    have y14 : (W.setCell ⟨oB, 14, none⟩ (.pointer none)).cell? ⟨rB, 14, none⟩ = some (.pointer none) := (set_ne W _ _ _ _ _ (.inl ho.f)).trans x14
    clear h ho hhd hrn hrp k13
    unfold ptr at *
    go_enter Yba.func6, Yba.ntmps6
    go_wp2_with fail
    go_loopw [4] (fun l wr => l = .pointer none ∧ wr = W) (fun _ _ => 0)
    case atStart => exact ⟨rfl, rfl⟩
    case round =>
      obtain ⟨rfl, rfl⟩ := hrel
      go_upto_region 12 with fail
      go_region
      go_wp2_with fail
      go_end0
      exact ⟨rfl, HK.out, HT.out.kept HO.out (T := fun _ => False) ((Kept.refl _ _).drew) (fun _ h => h.elim)⟩

theorem und67 : Yba.prog.underlying 67 = some (.map (Yba.prog.mapKeyOf 67) (Yba.prog.mapElemOf 67)) := by kernel_rfl
set_option maxHeartbeats 4000000 in
theorem busy_any (h : Lay tB rB oB gq S m bh s W) (i : Nat) (hi : i < m) (x : Bool) (hx : s.mp i = .map (left x) (clk x)) :
    Calls Yba.prog 10 #[ptr (S + 3 * i + 1)] W fun e W' => e = .returned (.bool x) ∧ W' = W := by
  have x2 := h.w2 i hi
  have x3 := h.w3 i hi
  have x4 := h.w4 i hi
  have xm := h.mp i hi
  rw [hx] at xm
  clear h hx
  unfold ptr
  cases x
  · have hl := fun ty => run_len_map W 67 ty _ _ _ und67 xm
    simp only [left] at hl
    clear xm
    go_enter Yba.func10, Yba.ntmps10
    go_wp2_with fail
    go_ret
    exact ⟨rfl, rfl⟩
  · have hl := fun ty => run_len_map W 67 ty _ _ _ und67 xm
    simp only [left] at hl
    clear xm
    go_enter Yba.func10, Yba.ntmps10
    go_wp2_with fail
    go_ret
    exact ⟨rfl, rfl⟩

set_option maxHeartbeats 4000000 in
theorem forget_any (h : Lay tB rB oB gq S m bh s W) (ho : Ord B tB rB oB gq S) (i : Nat) (hi : i < m) (x : Bool) (hx : s.mp i = .map (left x) (clk x)) (h1 : s.i1 = .pointer none) (hc : s.ic = .int .i64 0) :
    Calls Yba.prog 7 #[ptr tB, ptr (S + 3 * i + 1)] W fun e W' => e = .returned (.tuple #[]) ∧ Kept W W' (fun g => B ≤ g) ∧
      Lay tB rB oB gq S m bh (if x then s else { s with i1 := ptr (S + 3 * i + 1), i2 := ptr (S + 3 * i + 1), ic := .int .i64 1, ip := fun j => if j = i then .pointer none else s.ip j, iq := fun j => if j = i then .pointer none else s.iq j }) W' := by
  cases x
  · have HB := hide (busy_any h i hi false hx)
    obtain ⟨oa, ob, oc, od, oe, of, og, oh⟩ := ho
    have ho : Ord B tB rB oB gq S := ⟨oa, ob, oc, od, oe, of, og, oh⟩
    have x89 := h.t89
    have x90 := h.t90
    have x91 := h.t91
    rw [h1] at x89
    rw [hc] at x91
    have x10 := h.w10 i hi
    have x11 := h.w11 i hi
    have hf1 : ∀ o, W.frozen? ⟨tB, o, none⟩ = false := fun o => h.fr _ _ (Nat.le_refl _) (by omega)
    have hf2 : ∀ o, W.frozen? ⟨S + 3 * i + 1, o, none⟩ = false := fun o => h.fr _ _ (by omega) (by omega)
    obtain ⟨W1, hW1⟩ : ∃ W1, W1 = (W.setCell ⟨S + 3 * i + 1, 10, none⟩ (.pointer none)).setCell ⟨S + 3 * i + 1, 11, none⟩ (.pointer none) := ⟨_, rfl⟩
    have L1 := (h.setW ho i 10 (.pointer none) (by decide) (by decide) (by decide)).setW ho i 11 (.pointer none) (by decide) (by decide) (by decide)
    have K1 : Kept W W1 (fun g => B ≤ g) := by rw [hW1]; exact ((Kept.refl W _).setCell (.inl (by show B ≤ S + 3 * i + 1; omega)) _).setCell (.inl (by show B ≤ S + 3 * i + 1; omega)) _
    rw [← hW1] at L1
    have y89 := L1.t89
    have y90 := L1.t90
    have y91 := L1.t91
    have hg1 : ∀ o, W1.frozen? ⟨tB, o, none⟩ = false := fun o => L1.fr _ _ (Nat.le_refl _) (by omega)
    simp only [] at y89 y90 y91
    rw [h1] at y89
    rw [hc] at y91
    have L2 := ((L1.setT ho 90 (ptr (S + 3 * i + 1))).setT ho 89 (ptr (S + 3 * i + 1))).setT ho 91 (.int .i64 1)
    have K2 := ((K1.setCell (.inl (by show B ≤ tB; omega)) (ptr (S + 3 * i + 1)) (a := ⟨tB, 90, none⟩)).setCell (.inl (by show B ≤ tB; omega)) (ptr (S + 3 * i + 1)) (a := ⟨tB, 89, none⟩)).setCell (.inl (by show B ≤ tB; omega)) (.int .i64 1) (a := ⟨tB, 91, none⟩)
    have HL := hide L2
    have HK := hide K2
    have HW := hide hW1
    clear h ho hx h1 hc L1 K1 L2 K2 hW1
    unfold ptr at *
    go_enter Yba.func7, Yba.ntmps7
    go_upto_region 1 with (first | (go_at_call 10; refine HB.out.mono ?_; rintro e w' ⟨rfl, rfl⟩))
    go_upto_region 2 with fail
    rw [← HW.out]
    go_wp2_with fail
    go_end0
    refine ⟨rfl, HK.out, ?_⟩
    have := HL.out
    simpa using this
  · have HB := hide (busy_any h i hi true hx)
    have H := hide h
    clear h
    unfold ptr at *
    go_enter Yba.func7, Yba.ntmps7
    go_wp2_with (first | (go_at_call 10; refine HB.out.mono ?_; rintro e w' ⟨rfl, rfl⟩))
    (try simp only [Exit.inBlock, Exit.then])
    refine bodyPost_ret (results_none rfl _ _ _) rfl ?_
    exact ⟨rfl, Kept.refl _ _, H.out⟩
end Go.Proofs.Ybulkbhha
