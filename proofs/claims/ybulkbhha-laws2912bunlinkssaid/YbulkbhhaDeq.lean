/- dequeue: WHAT IT TURNS. -/
import Derived.Test.YbulkbhhaCalls
namespace Go.Proofs.Ybulkbhha
open Go.RowKit
variable {B tB rB oB gq S m : Nat} {bh : Bool} {s : St} {W W' : World}

def St.s1 (s : St) (k : Nat) : St := { s with hd := if k = 0 then s.nx k else s.hd, nx := fun j => if j + 1 = k then s.nx k else s.nx j }
def St.s2 (s : St) (m k : Nat) : St := { s with tl := if k + 1 = m then s.pv k else s.tl, pv := fun j => if j = k + 1 then s.pv k else s.pv j }
def St.s3 (s : St) (m : Nat) (bh : Bool) : St := if m = 1 then { s with tq := if bh then s.tq else .pointer none, oq := if bh then .pointer none else s.oq, rp := .pointer none, rn := .pointer none } else s
def St.s4 (s : St) (k : Nat) (x : Bool) : St := { s with mp := fun j => if j = k then .map (left x) (clk x) else s.mp j }
def St.s5 (s : St) (S k : Nat) (x : Bool) : St := if x then s else { s with i1 := ptr (S + 3 * k + 1), i2 := ptr (S + 3 * k + 1), ic := .int .i64 1, ip := fun j => if j = k then .pointer none else s.ip j, iq := fun j => if j = k then .pointer none else s.iq j }
def St.s6 (s : St) (v : Value) : St := { s with wt := v }

theorem Lay.drew' (h : Lay tB rB oB gq S m bh s W) (ho : Ord B tB rB oB gq S) : Lay tB rB oB gq S m bh s W.drew := h.kept ho (T := fun _ => False) ((Kept.refl _ _).drew) (fun _ h => h.elim)

theorem St.eq_s1_zero (s : St) : { s with hd := if 10 = 10 then s.nx 0 else s.hd, tl := if 10 = 11 then s.nx 0 else s.tl, rp := if 10 = 13 then s.nx 0 else s.rp, rn := if 10 = 14 then s.nx 0 else s.rn } = s.s1 0 := by
  simp [St.s1]
theorem St.eq_s1_succ (s : St) (j : Nat) : { s with pv := fun i => if i = j ∧ 21 = 20 then s.nx (j + 1) else s.pv i, nx := fun i => if i = j ∧ 21 = 21 then s.nx (j + 1) else s.nx i } = s.s1 (j + 1) := by
  simp [St.s1]
theorem St.eq_s2_last (s : St) (m k : Nat) (h : k + 1 = m) : Lay tB rB oB gq S m bh { s with hd := if 11 = 10 then s.pv k else s.hd, tl := if 11 = 11 then s.pv k else s.tl, rp := if 11 = 13 then s.pv k else s.rp, rn := if 11 = 14 then s.pv k else s.rn } W → Lay tB rB oB gq S m bh (s.s2 m k) W := fun L => by
  refine ⟨L.size, L.t7, L.t15, L.t89, L.t90, L.t91, L.r1, L.r8, L.r10, ?_, L.r13, L.r14, L.o13, L.o14, L.q, L.n1, L.n2, L.n5, fun j hj => ?_, L.n21, L.w2, L.w3, L.w4, L.w10, L.w11, L.mp, L.fr, L.fo⟩
  · simp only [St.s2, if_pos h]; exact L.r11
  · simp only [St.s2]; rw [if_neg (by omega)]; exact L.n20 j hj
theorem St.eq_s2_mid (s : St) (m k : Nat) (h : k + 1 ≠ m) : { s with pv := fun i => if i = k + 1 ∧ 20 = 20 then s.pv k else s.pv i, nx := fun i => if i = k + 1 ∧ 20 = 21 then s.pv k else s.nx i } = s.s2 m k := by
  simp [St.s2, h]

set_option maxHeartbeats 4000000 in
set_option maxRecDepth 100000 in
theorem deq_any (h : Lay tB rB oB gq S m bh s W) (ho : Ord B tB rB oB gq S) (k : Nat) (hk : k < m) (x : Bool) (v : Value) (a : Int)
    (hpv : s.pv k = if k = 0 then .pointer none else ptr (S + 3 * (k - 1) + 2)) (hnx : s.nx k = if k + 1 = m then .pointer none else ptr (S + 3 * (k + 1) + 2)) (hhd : s.hd = ptr (S + 3 * 0 + 2))
    (hrn : s.rn = .pointer none) (hrp : s.rp = if bh then ptr oB else .pointer none) (hmp : s.mp k = .map (ents v x) (clk x)) (h1 : s.i1 = .pointer none) (hc : s.ic = .int .i64 0) (hwt : s.wt = .int .i64 a) :
    Calls Yba.prog 5 #[ptr tB, ptr (S + 3 * k + 2)] W fun e W' => e = .returned (.tuple #[]) ∧ Kept W W' (fun g => B ≤ g) ∧
      Lay tB rB oB gq S m bh ((((((s.s1 k).s2 m k).s3 m bh).s4 k x).s5 S k x).s6 (.int .i64 (wrap64 (a - 1)))) W' := by
  obtain ⟨oa, ob, oc, od, oe, of, og, oh⟩ := ho
  have ho : Ord B tB rB oB gq S := ⟨oa, ob, oc, od, oe, of, og, oh⟩
  have HO := hide ho
  obtain ⟨pp, hpp⟩ : ∃ p, s.pv k = .pointer p := by rw [hpv]; split <;> exact ⟨_, rfl⟩
  obtain ⟨pn, hpn⟩ : ∃ p, s.nx k = .pointer p := by rw [hnx]; split <;> exact ⟨_, rfl⟩
  have x2 := h.n2 k hk
  have x20 := h.n20 k hk
  have x21 := h.n21 k hk
  have x10 := h.r10
  rw [hpp] at x20
  rw [hpn] at x21
  have hfr : ∀ o, W.frozen? ⟨rB, o, none⟩ = false := fun o => h.fr _ _ (by omega) (by omega)
  have H := hide h
  clear h ho
  unfold ptr at x2 hpv hnx hhd
  unfold ptr
  have HPP := hide hpp
  have HPN := hide hpn
  have HPV := hide hpv
  have HNX := hide hnx
  have HHD := hide hhd
  have HRN := hide hrn
  have HRP := hide hrp
  have HMP := hide hmp
  have HI1 := hide h1
  have HC := hide hc
  have HWT := hide hwt
  clear hpv hnx hhd hrn hrp hmp h1 hc hwt hpp hpn
  go_enter Yba.func5, Yba.ntmps5
  go_upto_if 13 with fail
  go_cut [] from 9 to 30 (fun wc => Kept W wc (fun g => B ≤ g) ∧ Lay tB rB oB gq S m bh (s.s1 k) wc)
  case first =>
    by_cases hk0 : k = 0
    · subst hk0
      have e : pp = none := by have := HPP.out; rw [HPV.out, if_pos rfl] at this; injection this with this; exact this.symm
      subst e
      go_wp2_with fail
      go_meet
      case rel => exact ⟨(Kept.refl W _).setCell (.inl (by show B ≤ rB; omega)) _, by rw [← HPN.out, ← St.eq_s1_zero]; exact H.out.setR HO.out 10 _ (by decide) (by decide)⟩
    · obtain ⟨j, rfl⟩ : ∃ j, k = j + 1 := ⟨k - 1, by omega⟩
      have e : pp = some ⟨S + 3 * j + 2, 0, none⟩ := by have := HPP.out; rw [HPV.out, if_neg hk0] at this; injection this with this; exact this.symm
      subst e
      have y21 := H.out.n21 j (by omega)
      have hfj : ∀ o, W.frozen? ⟨S + 3 * j + 2, o, none⟩ = false := fun o => H.out.fr _ _ (by omega) (by omega)
      go_upto_region 3 with fail
      go_region
      go_wp2_with fail
      go_meet
      case rel => exact ⟨((Kept.refl W _).setCell (.inl (by show B ≤ S + 3 * j + 2; omega)) _).drew, by rw [← HPN.out, ← St.eq_s1_succ]; exact (H.out.setN HO.out j 21 _ (by decide) (by decide) (by decide)).drew' HO.out⟩
  case rest =>
    obtain ⟨hk1, hl1⟩ := hcut
    have x20' : wc.cell? ⟨S + 3 * k + 2, 20, none⟩ = some (.pointer pp) := by rw [← HPP.out]; exact hl1.n20 k hk
    have x21' : wc.cell? ⟨S + 3 * k + 2, 21, none⟩ = some (.pointer pn) := by
      have := hl1.n21 k hk
      simp only [St.s1] at this
      rw [if_neg (by omega), HPN.out] at this
      exact this
    have hfr' : ∀ o, wc.frozen? ⟨rB, o, none⟩ = false := fun o => hl1.fr _ _ (by omega) (by omega)
    have x11' := hl1.r11
    have HK1 := hide hk1
    have HL1 := hide hl1
    clear hk1 hl1 x20 x21 hfr x10 H
    go_upto_if 35 with fail
    go_cut [] from 31 to 52 (fun we => Kept W we (fun g => B ≤ g) ∧ Lay tB rB oB gq S m bh ((s.s1 k).s2 m k) we)
    case first =>
      by_cases hkm : k + 1 = m
      · have e : pn = none := by have := HPN.out; rw [HNX.out, if_pos hkm] at this; injection this with this; exact this.symm
        subst e
        go_wp2_with fail
        go_meet
        case rel => exact ⟨HK1.out.setCell (.inl (by show B ≤ rB; omega)) _, St.eq_s2_last _ _ _ hkm (by have := HL1.out.setR HO.out 11 (.pointer pp) (by decide) (by decide); rw [show (s.s1 k).pv k = .pointer pp from HPP.out]; exact this)⟩
      · have e : pn = some ⟨S + 3 * (k + 1) + 2, 0, none⟩ := by have := HPN.out; rw [HNX.out, if_neg hkm] at this; injection this with this; exact this.symm
        subst e
        have y20 := HL1.out.n20 (k + 1) (by omega)
        have hfj : ∀ o, wc.frozen? ⟨S + 3 * (k + 1) + 2, o, none⟩ = false := fun o => HL1.out.fr _ _ (by omega) (by omega)
        go_upto_region 6 with fail
        go_region
        go_wp2_with fail
        go_meet
        case rel => exact ⟨(HK1.out.setCell (.inl (by show B ≤ S + 3 * (k + 1) + 2; omega)) _).drew, by rw [← St.eq_s2_mid _ _ _ hkm, show (s.s1 k).pv k = .pointer pp from HPP.out]; exact (HL1.out.setN HO.out (k + 1) 20 _ (by decide) (by decide) (by decide)).drew' HO.out⟩
    case rest =>
      obtain ⟨hk2, hl2⟩ := hcut
      obtain ⟨ph, hph⟩ : ∃ p, ((s.s1 k).s2 m k).hd = .pointer p := by
        simp only [St.s2, St.s1]
        split
        · exact ⟨_, HPN.out⟩
        · exact ⟨_, HHD.out⟩
      have x10' := hl2.r10
      rw [hph] at x10'
      have HK2 := hide hk2
      have HL2 := hide hl2
      have HPH := hide hph
      clear hk2 hl2 x20' x21' hfr' x11' hph HL1 HK1
      go_upto_if 57 with fail
      go_cut [] from 53 to 60 (fun we => Kept W we (fun g => B ≤ g) ∧ Lay tB rB oB gq S m bh (((s.s1 k).s2 m k).s3 m bh) we)
      case first =>
        by_cases hm1 : m = 1
        · have hk0 : k = 0 := by omega
          have hnn : ((s.s1 k).s2 m k).hd = .pointer none := by
            simp only [St.s2, St.s1]; rw [if_pos hk0, HNX.out, if_pos (by omega)]
          have e : ph = none := by have := HPH.out; rw [hnn] at this; injection this with this; exact this.symm
          subst e
          have hcall := relist_any HL2.out HO.out hnn HRN.out HRP.out
          have HCALL := hide hcall
          clear hcall hk0 hnn
          unfold ptr at HCALL
          go_wp2_with (first | (go_at_call 6; refine HCALL.out.mono ?_; rintro e w' ⟨rfl, hka, hla⟩))
          go_meet
          case rel => exact ⟨HK2.out.trans hka (fun g hg => .inl hg), by rw [St.s3, if_pos hm1]; exact hla⟩
        · have e : ∃ a, ph = some a := by
            have := HPH.out
            simp only [St.s2, St.s1] at this
            by_cases hk0 : k = 0
            · rw [if_pos hk0, HNX.out, if_neg (by omega)] at this; injection this with this; exact ⟨_, this.symm⟩
            · rw [if_neg hk0, HHD.out] at this; injection this with this; exact ⟨_, this.symm⟩
          obtain ⟨pa, rfl⟩ := e
          go_wp2_with fail
          go_meet
          case rel => exact ⟨HK2.out, by rw [St.s3, if_neg hm1]; exact HL2.out⟩
      case rest =>
        obtain ⟨hk3, hl3⟩ := hcut
        have f3 : ∀ (P : St → Prop), P ((s.s1 k).s2 m k) → (∀ t : St, P t → P { t with tq := if bh then t.tq else .pointer none, oq := if bh then .pointer none else t.oq, rp := .pointer none, rn := .pointer none }) → P (((s.s1 k).s2 m k).s3 m bh) := fun P h1 h2 => by
          unfold St.s3; split
          · exact h2 _ h1
          · exact h1
        have m3 : (((s.s1 k).s2 m k).s3 m bh).mp k = .map (ents v x) (clk x) := f3 (fun t => t.mp k = .map (ents v x) (clk x)) HMP.out (fun _ h => h)
        have j3 : (((s.s1 k).s2 m k).s3 m bh).i1 = .pointer none := f3 (fun t => t.i1 = .pointer none) HI1.out (fun _ h => h)
        have c3 : (((s.s1 k).s2 m k).s3 m bh).ic = .int .i64 0 := f3 (fun t => t.ic = .int .i64 0) HC.out (fun _ h => h)
        have w3 : (((s.s1 k).s2 m k).s3 m bh).wt = .int .i64 a := f3 (fun t => t.wt = .int .i64 a) HWT.out (fun _ h => h)
        obtain ⟨s3, hs3⟩ : ∃ s3, s3 = ((s.s1 k).s2 m k).s3 m bh := ⟨_, rfl⟩
        rw [← hs3] at hl3 m3 j3 c3 w3
        have HS3 := hide hs3
        clear hs3
        have xm := hl3.mp k hk
        rw [m3] at xm
        have hdel := fun ty => del_r wc.drew (S + 3 * k) v x ty xm
        have x1 := hl3.n1 k hk
        have x4 := hl3.w4 k hk
        have xr := hl3.r1
        have hl4 : Lay tB rB oB gq S m bh (s3.s4 k x) ({ wc.drew with heap := wc.drew.heap.setIfInBounds (S + 3 * k) (.map (left x) (clk x)) } : World) := (hl3.drew' HO.out).setM HO.out k hk (left x) (clk x)
        have hk4 : Kept W ({ wc.drew with heap := wc.drew.heap.setIfInBounds (S + 3 * k) (.map (left x) (clk x)) } : World) (fun g => B ≤ g) := hk3.drew.setObj (.inl (by omega)) _
        have HL4 := hide hl4
        have HK4 := hide hk4
        have HM3 := hide m3
        have HJ3 := hide j3
        have HC3 := hide c3
        have HW3 := hide w3
        unfold ptr at x1
        clear hl3 hk3 hl4 hk4 m3 j3 c3 w3 f3 xm HL2 HK2 x10' HPH HPP HPN HPV HNX HHD HRN HRP HMP HI1 HC HWT x2
        obtain ⟨W4, hW4⟩ : ∃ W4, W4 = ({ wc.drew with heap := wc.drew.heap.setIfInBounds (S + 3 * k) (.map (left x) (clk x)) } : World) := ⟨_, rfl⟩
        rw [← hW4] at HL4 HK4 hdel
        have HW4 := hide hW4
        clear hW4
        go_upto_region 9 with fail
        go_region
        clear hdel x1 x4 xr
        have x1 := HL4.out.n1 k hk
        unfold ptr at x1
        have HCALL := hide (forget_any HL4.out HO.out k hk x (by simp only [St.s4, if_true]) HJ3.out HC3.out)
        unfold ptr at HCALL
        go_upto_region 11 with (first | (go_at_call 7; refine HCALL.out.mono ?_; rintro e W5 ⟨rfl, hka, hla⟩))
        have hl5 : Lay tB rB oB gq S m bh ((s3.s4 k x).s5 S k x) W5 := hla
        have w5 : ((s3.s4 k x).s5 S k x).wt = .int .i64 a := by
          unfold St.s5; split
          · exact HW3.out
          · exact HW3.out
        have x5 := hl5.n5 k hk
        have x15 := hl5.t15
        rw [w5] at x15
        have hfT : ∀ o, W5.frozen? ⟨tB, o, none⟩ = false := fun o => hl5.fr _ _ (Nat.le_refl _) (by omega)
        have HL6 := hide (hl5.setT HO.out 15 (.int .i64 (wrap64 (a - 1))))
        have HK6 := hide ((HK4.out.trans hka (fun g hg => .inl hg)).setCell (a := ⟨tB, 15, none⟩) (.inl (by show B ≤ tB; omega)) (.int .i64 (wrap64 (a - 1))))
        clear hla hka hl5 w5 x1 HCALL
        go_wp2_with fail
        go_end0
        refine ⟨rfl, HK6.out, ?_⟩
        have := HL6.out
        rw [← HS3.out]
        simpa [St.s6] using this
end Go.Proofs.Ybulkbhha
