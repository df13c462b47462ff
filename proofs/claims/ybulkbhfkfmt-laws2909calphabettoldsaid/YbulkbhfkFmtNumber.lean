import Derived.Test.YbulkbhfkFmtDigits
namespace Go.Proofs.YbulkbhfkFmt
open Go.RowKit Go.Extern.Stop Go.Stop Go.Extern
section
variable {w0 : World} {B bc bd c : Nat} {l : List UInt8} {w : World} {pos : Int}

/-- nil where the grammar accepts, an error where it does not. -/
def NumEnds (ok : Bool) (e : Ending) : Prop := if ok = true then e = .returned .nilIface else ∃ t v, e = .returned (.iface t v)

theorem lt_of_eq {q v : Int} (h : (byteAt l q == v) = true) (hv : v ≠ 0) (h0 : 0 ≤ q) : q < l.length := by
  have := byteAt_in l q (by rw [beq_iff_eq.1 h]; exact hv)
  omega

theorem ends_no {g : Int × Bool} {q : Int} {t : TypeId} {v : Value} (h : g = (q, false)) : NumEnds g.2 (.returned (.iface t v)) := by rw [h]; exact ⟨_, _, rfl⟩
theorem ends_yes {g : Int × Bool} {q : Int} (h : g = (q, true)) : NumEnds g.2 (.returned .nilIface) := by rw [h]; exact rfl
theorem St.fin {g : Int × Bool} {q : Int} {b : Bool} (s : St w0 B bc bd c l w q) (h : g = (q, b)) : St w0 B bc bd c l w g.1 := by rw [h]; exact s

set_option maxHeartbeats 1000000 in
theorem number_any (F : Interp) (hF : F.answers w0.tape) (h : St w0 B bc bd c l w pos) (hl : l.length ≤ 1024) :
    Calls Ybaf.prog 6 #[.pointer (some ⟨bc, 0, none⟩)] w fun e w' => NumEnds (gram l pos).2 e ∧ St w0 B bc bd c l w' (gram l pos).1 := by
  have H := hide h
  have HF := hide hF
  clear h hF
  go_enter Ybaf.func6, Ybaf.ntmps6
  go_wp2_with fail
  refine (peek_any H.out hl).mono ?_
  rintro e w1 ⟨rfl, hs1⟩
  have H1 := hide hs1
  have c1 := hs1.c1
  have f1 := hs1.f1
  have ge := hs1.ge
  have le := hs1.le
  clear hs1 H
  go_upto_if 7 with fail
  go_cut [] from 5 to 14 (fun wc => ∃ q, St w0 B bc bd c l wc q ∧ gram l pos = whole l q)
  case first =>
    cases ht : (byteAt l pos == 45)
    · go_wp2_with fail
      go_meet
      case rel => exact ⟨pos, H1.out, by unfold gram; rw [if_neg (by rw [ht]; decide)]⟩
    · go_wp2_with fail
      go_meet
      case rel => exact ⟨pos + 1, H1.out.inc (lt_of_eq ht (by decide) ge), by unfold gram; rw [if_pos ht]⟩
  case rest =>
    obtain ⟨q, hst, hq⟩ := hcut
    clear H1 c1 f1 ge le
    have HQ := hide hq
    have H2 := hide hst
    clear hq hst
    go_upto_block 0 with fail
    go_cut [] from 15 to 33 (fun wd => ∃ q', St w0 B bc bd c l wd q' ∧ gram l pos = frac l q')
    case first =>
      go_wp2_with fail
      refine (peek_any H2.out hl).mono ?_
      rintro e w2 ⟨rfl, hs2⟩
      have H3 := hide hs2
      have c1 := hs2.c1
      have f1 := hs2.f1
      have ge := hs2.ge
      have le := hs2.le
      clear hs2 H2
      cases ht : (byteAt l q == 48)
      · go_wp2_with fail
        refine (peek_any H3.out hl).mono ?_
        rintro e w3 ⟨rfl, hs3⟩
        have H4 := hide hs3
        clear hs3 H3 c1 f1
        go_wp2_with fail
        refine (isDigit_any _ _).mono ?_
        rintro e w4 ⟨rfl, rfl⟩
        cases hd : dig (byteAt l q)
        · go_wp2_with fail
          refine (unexpected_any F HF.out H4.out _).mono ?_
          rintro e w5 ⟨⟨t, v, rfl⟩, hs5⟩
          have H5 := hide hs5
          clear hs5 H4
          have hg : gram l pos = (q, false) := by rw [HQ.out]; unfold whole; rw [if_neg (by rw [ht]; decide), if_neg (by rw [hd]; decide)]
          have HG := hide hg
          clear hg
          go_wp2
          go_ret
          exact ⟨ends_no HG.out, H5.out.fin HG.out⟩
        · go_wp2_with fail
          refine (digits_any H4.out hl).mono ?_
          rintro e w5 ⟨rfl, hs5⟩
          have H5 := hide hs5
          clear hs5 H4
          go_wp2_with fail
          go_meet
          case rel => exact ⟨skip l q, H5.out, by rw [HQ.out]; unfold whole; rw [if_neg (by rw [ht]; decide), if_pos hd]⟩
      · go_wp2_with fail
        go_meet
        case rel => exact ⟨q + 1, H3.out.inc (lt_of_eq ht (by decide) ge), by rw [HQ.out]; unfold whole; rw [if_pos ht]⟩
    case rest =>
      obtain ⟨r, hst, hr⟩ := hcut
      clear H2 HQ
      have HR := hide hr
      have H2 := hide hst
      clear hr hst
      go_wp2_with fail
      refine (peek_any H2.out hl).mono ?_
      rintro e w2 ⟨rfl, hs2⟩
      have H3 := hide hs2
      have c1 := hs2.c1
      have f1 := hs2.f1
      have ge := hs2.ge
      have le := hs2.le
      clear hs2 H2
      go_upto_if 36 with fail
      go_cut [] from 34 to 51 (fun wd => ∃ q', St w0 B bc bd c l wd q' ∧ gram l pos = expo l q')
      case first =>
        cases ht : (byteAt l r == 46)
        · go_wp2_with fail
          go_meet
          case rel => exact ⟨r, H3.out, by rw [HR.out]; unfold frac; rw [if_neg (by rw [ht]; decide)]⟩
        · go_wp2_with fail
          refine (peek_any (H3.out.inc (lt_of_eq ht (by decide) ge)) hl).mono ?_
          rintro e w3 ⟨rfl, hs3⟩
          have H4 := hide hs3
          clear hs3 H3 c1 f1
          go_wp2_with fail
          refine (isDigit_any _ _).mono ?_
          rintro e w4 ⟨rfl, rfl⟩
          cases hd : dig (byteAt l (r + 1))
          · go_wp2_with fail
            refine (unexpected_any F HF.out H4.out _).mono ?_
            rintro e w5 ⟨⟨t, v, rfl⟩, hs5⟩
            have H5 := hide hs5
            clear hs5 H4
            have hg : gram l pos = (r + 1, false) := by rw [HR.out]; unfold frac; rw [if_pos ht, if_neg (by rw [hd]; decide)]
            have HG := hide hg
            clear hg
            go_wp2
            go_ret
            exact ⟨ends_no HG.out, H5.out.fin HG.out⟩
          · go_wp2_with fail
            refine (digits_any H4.out hl).mono ?_
            rintro e w5 ⟨rfl, hs5⟩
            have H5 := hide hs5
            clear hs5 H4
            go_wp2_with fail
            go_meet
            case rel => exact ⟨skip l (r + 1), H5.out, by rw [HR.out]; unfold frac; rw [if_pos ht, if_pos hd]⟩
      case rest =>
        obtain ⟨x, hst, hx⟩ := hcut
        clear H3 HR c1 f1 ge le
        have HX := hide hx
        have H2 := hide hst
        clear hx hst
        go_wp2_with fail
        refine (peek_any H2.out hl).mono ?_
        rintro e w2 ⟨rfl, hs2⟩
        have H3 := hide hs2
        have c1 := hs2.c1
        have f1 := hs2.f1
        have ge := hs2.ge
        have le := hs2.le
        clear hs2 H2
        go_upto_region 14 with fail
        go_cut [59] from 54 to 58 (fun v wd => v = .bool (byteAt l x == 101 || byteAt l x == 69) ∧ St w0 B bc bd c l wd x)
        case first =>
          cases ha : (byteAt l x == 101)
          · go_wp2_with fail
            go_meet
            case rel => exact ⟨by rw [ha]; rfl, H3.out⟩
          · go_wp2_with fail
            go_meet
            case rel => exact ⟨by rw [ha]; rfl, H3.out⟩
        case rest =>
          obtain ⟨rfl, hst⟩ := hcut
          clear H3 c1 f1 ge le
          have c1 := hst.c1
          have f1 := hst.f1
          have ge := hst.ge
          have le := hst.le
          have H3 := hide hst
          clear hst
          cases hE : (byteAt l x == 101 || byteAt l x == 69)
          · have hg : gram l pos = (x, true) := by rw [HX.out]; unfold expo; rw [if_neg (by rw [hE]; decide)]
            have HG := hide hg
            clear hg
            go_wp2_with fail
            go_ret
            exact ⟨ends_yes HG.out, H3.out.fin HG.out⟩
          · have hlt : x < l.length := by
              rcases Bool.or_eq_true_iff.1 hE with h | h
              · exact lt_of_eq h (by decide) ge
              · exact lt_of_eq h (by decide) ge
            go_wp2_with fail
            refine (peek_any (H3.out.inc hlt) hl).mono ?_
            rintro e w3 ⟨rfl, hs3⟩
            have H4 := hide hs3
            have c1' := hs3.c1
            have f1' := hs3.f1
            clear hs3 H3 c1 f1
            go_upto_region 17 with fail
            go_cut [74] from 69 to 73 (fun v wd => v = .bool (byteAt l (x + 1) == 43 || byteAt l (x + 1) == 45) ∧ St w0 B bc bd c l wd (x + 1))
            case first =>
              cases ha : (byteAt l (x + 1) == 43)
              · go_wp2_with fail
                go_meet
                case rel => exact ⟨by rw [ha]; rfl, H4.out⟩
              · go_wp2_with fail
                go_meet
                case rel => exact ⟨by rw [ha]; rfl, H4.out⟩
            case rest =>
              obtain ⟨rfl, hst⟩ := hcut
              clear H4 c1' f1'
              have c1 := hst.c1
              have f1 := hst.f1
              have le' := hst.le
              have H4 := hide hst
              clear hst
              go_upto_if 74 with fail
              go_cut [] from 74 to 81 (fun wd => ∃ y, St w0 B bc bd c l wd y ∧ gram l pos = if dig (byteAt l y) = true then (skip l y, true) else (y, false))
              case first =>
                cases hS : (byteAt l (x + 1) == 43 || byteAt l (x + 1) == 45)
                · go_wp2_with fail
                  go_meet
                  case rel => exact ⟨x + 1, H4.out, by rw [HX.out]; unfold expo; rw [if_pos hE, if_neg (by rw [hS]; decide)]⟩
                · have hlt2 : x + 1 < l.length := by
                    rcases Bool.or_eq_true_iff.1 hS with h | h
                    · exact lt_of_eq h (by decide) (by omega)
                    · exact lt_of_eq h (by decide) (by omega)
                  go_wp2_with fail
                  go_meet
                  case rel => exact ⟨x + 1 + 1, H4.out.inc hlt2, by rw [HX.out]; unfold expo; rw [if_pos hE, if_pos hS]⟩
              case rest =>
                obtain ⟨y, hst, hy⟩ := hcut
                clear H4 c1 f1 le' HX hE
                have HY := hide hy
                have H5 := hide hst
                clear hy hst
                go_wp2_with fail
                refine (peek_any H5.out hl).mono ?_
                rintro e w4 ⟨rfl, hs4⟩
                have H6 := hide hs4
                clear hs4 H5
                go_wp2_with fail
                refine (isDigit_any _ _).mono ?_
                rintro e w5 ⟨rfl, rfl⟩
                cases hd : dig (byteAt l y)
                · go_wp2_with fail
                  refine (unexpected_any F HF.out H6.out _).mono ?_
                  rintro e w6 ⟨⟨t, v, rfl⟩, hs6⟩
                  have H7 := hide hs6
                  clear hs6 H6
                  have hg : gram l pos = (y, false) := by rw [HY.out, if_neg (by rw [hd]; decide)]
                  have HG := hide hg
                  clear hg
                  go_wp2
                  go_ret
                  exact ⟨ends_no HG.out, H7.out.fin HG.out⟩
                · go_wp2_with fail
                  refine (digits_any H6.out hl).mono ?_
                  rintro e w6 ⟨rfl, hs6⟩
                  have H7 := hide hs6
                  clear hs6 H6
                  have hg : gram l pos = (skip l y, true) := by rw [HY.out, if_pos hd]
                  have HG := hide hg
                  clear hg
                  go_wp2
                  go_ret
                  exact ⟨ends_yes HG.out, H7.out.fin HG.out⟩
end
end Go.Proofs.YbulkbhfkFmt
