import Derived.Test.YbulkbhfkFmtErr
import Derived.Deep.LoopGhost
namespace Go.Proofs.YbulkbhfkFmt
open Go.RowKit Go.Extern.Stop Go.Stop Go.Extern
section
variable {w0 : World} {B bc bd c : Nat} {l : List UInt8} {w : World} {pos : Int}

set_option maxHeartbeats 400000 in
theorem digits_any (h : St w0 B bc bd c l w pos) (hl : l.length ≤ 1024) :
    Calls Ybaf.prog 10 #[.pointer (some ⟨bc, 0, none⟩)] w fun e w' => e = .returned (.tuple #[]) ∧ St w0 B bc bd c l w' (skip l pos) := by
  have H := hide h
  clear h
  go_enter Ybaf.func10, Ybaf.ntmps10
  go_wp2_with fail
  go_loopg [2] (l.length + 1) (fun k _ wr => ∃ q : Int, St w0 B bc bd c l wr q ∧ skip l q = skip l pos ∧ l.length < q + k)
  case atStart => exact ⟨pos, H.out, rfl, by have := H.out.ge; omega⟩
  case round =>
    obtain ⟨q, hst, hsk, hk⟩ := hrel
    have HS := hide hst
    have HK := hide hsk
    have hge := hst.ge
    have hle := hst.le
    clear hst hsk H
    cases hdg : dig (byteAt l q)
    · have HN := hide (skip_no l q hdg)
      go_wp2_with (first
        | (go_at_call 8; refine (peek_any HS.out hl).mono ?_; rintro e w' ⟨rfl, hs'⟩; have HS' := hide hs'; clear hs')
        | (go_at_call 9; refine (isDigit_any _ _).mono ?_; rintro e w' ⟨rfl, rfl⟩))
      go_end0
      exact ⟨rfl, by rw [← HK.out, HN.out]; exact HS'.out⟩
    · obtain ⟨hy, hin⟩ := skip_yes l q hge hdg
      have HY := hide hy
      have hql : q < l.length := by omega
      clear hy hin
      go_wp2_with (first
        | (go_at_call 8; refine (peek_any HS.out hl).mono ?_; rintro e w' ⟨rfl, hs'⟩; have HS' := hide hs'; have hc1 := hs'.c1; have hf1 := hs'.f1; clear hs')
        | (go_at_call 9; refine (isDigit_any _ _).mono ?_; rintro e w' ⟨rfl, rfl⟩))
      go_roundg (gk - 1)
      case measure => omega
      case rel => exact ⟨q + 1, HS'.out.inc hql, by rw [← HK.out, HY.out], by omega⟩

theorem fin_of {v w2 : World} {o : Obj} (h : St w0 B bc bd c l v pos) (hb : Below (v.alloc o).drew.heap.size (v.alloc o).drew w2) : St w0 B bc bd c l w2 pos :=
  h.later ((((Below.refl _ v).alloc (Nat.le_refl _) _).drew).trans (hb.mono (by simp)))

set_option maxHeartbeats 400000 in
theorem unexpected_any (F : Interp) (hF : F.answers w0.tape) (h : St w0 B bc bd c l w pos) (s : ByteArray) :
    Calls Ybaf.prog 11 #[.pointer (some ⟨bc, 0, none⟩), .string s] w fun e w' => (∃ t v, e = .returned (.iface t v)) ∧ St w0 B bc bd c l w' pos := by
  have c0 := h.c0
  have c1 := h.c1
  have ge := h.ge
  have le := h.le
  have H := hide h
  clear h
  by_cases hlt : pos < l.length
  · have hx : pos.toNat < l.length := by omega
    have hcell := H.out.lies pos.toNat hx
    have hne : (pos == (l.length : Int)) = false := beq_eq_false_iff_ne.2 (by omega)
    go_enter Ybaf.func11, Ybaf.ntmps11
    go_wp2_with fail
    go_region_held3 (fun w' => w'.cell? ⟨bc, 0, none⟩ = some (.slice (some ⟨bd, 0, none⟩) l.length c) ∧ w'.cell? ⟨bc, 1, none⟩ = some (.int .i64 pos) ∧ w'.cell? ⟨bd, pos.toNat, none⟩ = some (.int .u8 (l[pos.toNat].toNat : Int))) (go_keep) (fail)
    go_wp2_with fail
    have HD := hide H.out.drew
    have c0' := HD.out.c0
    have c1' := HD.out.c1
    have hcell' := HD.out.lies pos.toNat hx
    have ht : w.drew.tape = w0.tape := HD.out.tape
    have HT := hide ht
    clear H c0 c1 hcell ht
    generalize w.drew = v at *
    go_region_held3 (fun w' => w'.cell? ⟨bc, 0, none⟩ = some (.slice (some ⟨bd, 0, none⟩) l.length c) ∧ w'.cell? ⟨bc, 1, none⟩ = some (.int .i64 pos) ∧ w'.cell? ⟨bd, pos.toNat, none⟩ = some (.int .u8 (l[pos.toNat].toNat : Int))) (first | assumption | go_keep)
      (first | (go_at_call 15; refine (errorfB F _ (l[pos.toNat].toNat : Int) pos s _ ?_ ?_ ?_ ?_).mono ?_; (show F.answers v.tape; rw [HT.out]; exact hF); (go_simp); (go_simp); (go_simp); rintro e w2 ⟨⟨t, u, rfl⟩, hb2⟩; have hS2 := fin_of HD.out hb2; have k0 := hS2.c0; have k1 := hS2.c1; have k2 := hS2.lies pos.toNat hx))
    go_wp2
    go_ret
    exact ⟨⟨_, _, rfl⟩, hS2⟩
  · have hne : (pos == (l.length : Int)) = true := beq_iff_eq.2 (by omega)
    go_enter Ybaf.func11, Ybaf.ntmps11
    go_wp2_with fail
    go_region_held3 (fun w' => w'.cell? ⟨bc, 0, none⟩ = some (.slice (some ⟨bd, 0, none⟩) l.length c) ∧ w'.cell? ⟨bc, 1, none⟩ = some (.int .i64 pos)) (go_keep) (fail)
    go_wp2_with fail
    refine (errorfA F _ s _ ?_ ?_).mono ?_
    · show F.answers w.tape
      rw [H.out.tape]; exact hF
    · go_simp
    · rintro e w2 ⟨⟨t, v, rfl⟩, hb2⟩
      go_wp2
      go_ret
      exact ⟨⟨_, _, rfl⟩, H.out.later ((((Below.refl _ w).alloc (Nat.le_refl _) _).drew).trans (hb2.mono (by simp)))⟩
end
end Go.Proofs.YbulkbhfkFmt
