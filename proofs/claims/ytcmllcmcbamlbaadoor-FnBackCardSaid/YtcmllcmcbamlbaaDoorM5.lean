/- Digests of the package: Write, whole. (Printed by gen_dig.py.) Words put into bytes. (Printed by gen_put.py.) Padding and the sum's bytes: plain facts for checkSum. -/
import Derived.Test.YtcmllcmcbamlbaaDoorM4
import Derived.Test.YtcmllcmcbamlbaaDoorM2
import Derived.LoopN
set_option linter.unusedVariables false
set_option linter.unusedSimpArgs false
namespace Go.Proofs.YtcmllcmcbamlbaaDoor
open Go.RowKit

set_option maxHeartbeats 4000000 in
set_option maxRecDepth 100000 in
theorem wr_A {Q : Exit → Act → World → Prop} {g b o c : Nat} {m p M : List Int} {v4 v5 : Value} {w0 : World} (a : Act) (w : World) (hs : SzIs a 95) (hd : DfNil a)
  (s0 : a.tmps.getD 0 undef = .pointer (some ⟨g, 0, none⟩)) (s1 : a.tmps.getD 1 undef = .slice (some ⟨b, o, none⟩) p.length c) (s4 : a.tmps.getD 4 undef = v4) (s5 : a.tmps.getD 5 undef = v5)
  (hM : Is M (m ++ p)) (hMl : m.length + p.length = M.length) (hlen : M.length ≤ 1000000000000) (hM8 : Bytes M) (hG : GB w0 w g) (hP : BytesAt w0 b o p 0 p.length) (hbg : 0 < p.length → b ≠ g) (hKt : KTab w0 0) (hg0 : g ≠ 0) (hm8 : Bytes m) (hcap : p.length ≤ c) {x : Array Value} {q r : Nat} (hmq : 64 * q + r = m.length) (hr : r < 64) (hx : x.size = 64) (hx1 : One x) (hg : Blk w g 122 (dig (shaBlks m 0 q sha0) x ((r : Nat) : Int) ((M.length : Nat) : Int))) (hxb : ∀ j, j < r → x[j]? = some (.int .u8 (m.getD (64 * q + j) 0)))
  (hQ : ∀ (a : Act) (w : World) (P : Option Addr) (n c : Nat), (n = 0 ∨ P = some ⟨b, o + (p.length - n), none⟩) → n ≤ p.length → n ≤ c → SzIs a 95 → DfNil a → LiveAll [(0, .pointer (some ⟨g, 0, none⟩)), (1, .slice P n c), (4, v4), (5, v5)] a → GB w0 w g → MidD w g M n → Q .normal a w) : wrA.wp Tryd.prog Q a w := by
 conv => arg 2; whnf
 have hfr : shaBlks m 0 q sha0 = shaBlks M 0 q sha0 := by
  have h := shaBlks_front hM
  rwa [show m.length / 64 = q by omega] at h
 by_cases h0 : r = 0
 ·subst h0
  refine wp_seq ?_
  have c2 := (hg.cell 72).trans (dig_get_nx _ _ _ _ hx)
  refine fl2 (F := [(0, _), (1, _), (4, _), (5, _)]) [.eq 19 _, .eq 20 _, .eq 21 _, .eq 22 _] 4 hs hd ⟨s0, s1, s4, s5, trivial⟩
   ⟨(stp rfl fun a u hb hs hl hd K hK => by have s0 := gL hl 0; clear hd; go_simp; exact kE hK hs),
    (stp rfl fun a u hb hs hl hd K hK => by have s19 := gD hd 0; clear hd; go_simp; exact kE hK hs),
    (stp rfl fun a u hb hs hl hd K hK => by have s20 := gD hd 1; clear hd; go_simp; exact kE hK hs),
    (stp rfl fun a u hb hs hl hd K hK => by have s21 := gD hd 2; have c2 := cell_up hb c2; clear hd; go_simp; exact kE hK hs),
    trivial⟩ ?_
  clear hs hd s0 s1 s4 s5
  intro a w hb hs hd zl hh
  replace zl := lH hh 3 zl
  clear hh
  replace hG := hG.after hb
  replace hg := hg.after hb
  replace c2 := cell_up hb c2
  clear hb
  show wpList _ _ _ [_] _ _
  refine tail_op rfl (fun K hK => ?_)
  have q22 := gL zl 0
  go_simp
  clear q22
  refine hK _ _ (tP hs hd zl ?_)
  clear hK K hs hd zl
  intro a hs hd zl
  clear c2
  refine wp_cond_false (vL zl 0) ?_
  refine wp_skip ?_
  obtain ⟨s23, -, s0, s1, s4, s5, -⟩ := zl
  refine hQ a w _ p.length c (.inr (by rw [Nat.sub_self, Nat.add_zero])) (Nat.le_refl _) hcap hs hd ⟨s0, s1, s4, s5, trivial⟩ hG (.inr ⟨x, q, ⟨hx, hx1⟩, by omega, ?_⟩)
  rw [← hfr]
  exact hg
 ·have hBs := bs_of (hP.gb0 hG hbg) rfl
  obtain ⟨n1, hn1⟩ : ∃ n1, Is (min p.length (64 - r)) n1 := is_self _
  refine wp_seq ?_
  have c2 := (hg.cell 72).trans (dig_get_nx _ _ _ _ hx)
  have hlt : decide (0 < r) = true := by simp; omega
  refine fl2 (F := [(0, _), (1, _), (4, _), (5, _)]) [.eq 19 _, .eq 20 _, .eq 21 _, .eq 22 _] 4 hs hd ⟨s0, s1, s4, s5, trivial⟩
   ⟨(stp rfl fun a u hb hs hl hd K hK => by have s0 := gL hl 0; clear hd; go_simp; exact kE hK hs),
    (stp rfl fun a u hb hs hl hd K hK => by have s19 := gD hd 0; clear hd; go_simp; exact kE hK hs),
    (stp rfl fun a u hb hs hl hd K hK => by have s20 := gD hd 1; clear hd; go_simp; exact kE hK hs),
    (stp rfl fun a u hb hs hl hd K hK => by have s21 := gD hd 2; have c2 := cell_up hb c2; clear hd; go_simp; exact kE hK hs),
    trivial⟩ ?_
  clear hs hd s0 s1 s4 s5
  intro a w hb hs hd zl hh
  replace zl := lH hh 3 zl
  clear hh
  replace hG := hG.after hb
  replace hg := hg.after hb
  replace hBs := hBs.after hb
  replace c2 := cell_up hb c2
  clear hb
  show wpList _ _ _ [_] _ _
  refine tail_op rfl (fun K hK => ?_)
  have q22 := gL zl 0
  go_simp
  clear q22
  refine hK _ _ (tP hs hd zl ?_)
  clear hK K hs hd zl
  intro a hs hd zl
  clear c2 hlt
  refine wp_cond_true (vL zl 0) ?_
  refine wp_seq ?_
  have c2 := (hg.cell 72).trans (dig_get_nx _ _ _ _ hx)
  have hr2 : (r : Int) ≤ 64 := by omega
  refine fl2 [.eq 24 _, .eq 25 _, .eq 26 _, .eq 27 _, .eq 28 _, .eq 29 _, .eq 30 _, .eq 31 _, .eq 32 _] 9 hs hd zl
   ⟨(stp rfl fun a u hb hs hl hd K hK => by have s0 := gL hl 2; clear hd; go_simp; exact kE hK hs),
    (stp rfl fun a u hb hs hl hd K hK => by have s24 := gD hd 0; clear hd; go_simp; exact kE hK hs),
    (stp rfl fun a u hb hs hl hd K hK => by have s25 := gD hd 1; clear hd; go_simp; exact kE hK hs),
    (stp rfl fun a u hb hs hl hd K hK => by have s0 := gL hl 2; clear hd; go_simp; exact kE hK hs),
    (stp rfl fun a u hb hs hl hd K hK => by have s27 := gD hd 3; clear hd; go_simp; exact kE hK hs),
    (stp rfl fun a u hb hs hl hd K hK => by have s28 := gD hd 4; clear hd; go_simp; exact kE hK hs),
    (stp rfl fun a u hb hs hl hd K hK => by have s29 := gD hd 5; have c2 := cell_up hb c2; clear hd; go_simp; exact kE hK hs),
    (stp rfl fun a u hb hs hl hd K hK => by have s26 := gD hd 2; have s30 := gD hd 6; clear hd; go_simp; exact kE hK hs),
    (stp rfl fun a u hb hs hl hd K hK => by have s1 := gL hl 3; clear hd; go_simp; exact kE hK hs),
    trivial⟩ ?_
  clear hs hd zl
  intro a w hb hs hd zl hh
  replace zl := lH hh 7 zl
  replace zl := lH hh 8 zl
  clear hh
  replace hG := hG.after hb
  replace hg := hg.after hb
  replace hBs := hBs.after hb
  replace c2 := cell_up hb c2
  clear hb
  show wpList _ _ _ [_, _] _ _
  refine tail_op rfl (fun K hK => ?_)
  have q31 := gL zl 1
  have q32 := gL zl 0
  obtain ⟨s32, s31, -, -, s0, s1, s4, s5, -⟩ := zl
  rw [if_neg (by omega)] at s31
  refine wp_copy_dig (off := r) (dLen := 64 - r) (dCap := 64 - r) (.tmp 31) (.tmp 32) rfl s31 s32 hg hx (by omega) hBs ?_
  intro w2 hg2 hb2
  rw [hn1.out]
  clear q31 q32
  refine hK _ _ ?_
  clear hK K
  refine act_put (d := 33) _ hs hd (by decide) [(0, _), (1, _), (4, _), (5, _), (31, _), (32, _)] ⟨s0, s1, s4, s5, s31, s32, trivial⟩ rfl ?_
  clear hs hd s0 s1 s4 s5 s31 s32
  intro a hs hd zl
  replace hG := hG.trans hg2
  replace hg := hb2
  clear hg2 hBs
  obtain ⟨x2, hx2e⟩ : ∃ x2, Is (putX x r (p.take (64 - r))) x2 := is_self _
  have htl : (p.take (64 - r)).length = n1 := by rw [List.length_take, ← hn1.out]; omega
  have hn1l : n1 ≤ p.length := by rw [← hn1.out]; omega
  have hn1r : n1 ≤ 64 - r := by rw [← hn1.out]; omega
  have hx2 : x2.size = 64 := by rw [← hx2e.out, putX_size x r _ (by omega)]; exact hx
  have hx12 : One x2 := by rw [← hx2e.out]; exact hx1.putX r _
  have hxb2 : ∀ j, j < r + n1 → x2[j]? = some (.int .u8 (M.getD (64 * q + j) 0)) := by
   intro j hj
   rw [← hx2e.out]
   by_cases hjr : j < r
   ·rw [putX_lo _ _ _ (by omega) j hjr, hxb j hjr, hM.out, getD_app_lo p (by omega)]
   ·obtain ⟨i, rfl⟩ : ∃ i, j = r + i := ⟨j - r, by omega⟩
    rw [putX_in _ _ _ (by omega) i (by omega), getD_take' _ _ _ (by omega), hM.out, show 64 * q + (r + i) = m.length + i by omega, getD_app]
  rw [hx2e.out] at hg
  clear hx hxb hx2e
  refine tail_op rfl (fun K hK => ?_)
  have q33 := gL zl 0
  go_simp
  clear q33
  refine hK _ _ (tP hs hd zl ?_)
  clear hK K hs hd zl
  intro a hs hd zl
  clear c2 hr2
  refine wp_seq ?_
  have c2 := (hg.cell 72).trans (dig_get_nx _ _ _ _ hx2)
  obtain ⟨N, hN⟩ : ∃ N, Is (r + n1) N := is_self _
  have hNe := hN.out
  have hw : IntKind.i64.wrap ((r : Int) + (n1 : Int)) = ((N : Nat) : Int) := by rw [IntWalk.i64_in _ (by omega)]; omega
  clear hNe
  refine fl2 [.eq 34 _, .eq 35 _, .eq 36 _, .eq 37 _, .eq 38 _, .eq 39 _, .eq 40 _, .eq 41 _] 8 hs hd zl
   ⟨(stp rfl fun a u hb hs hl hd K hK => by have s0 := gL hl 2; clear hd; go_simp; exact kE hK hs),
    (stp rfl fun a u hb hs hl hd K hK => by have s34 := gD hd 0; clear hd; go_simp; exact kE hK hs),
    (stp rfl fun a u hb hs hl hd K hK => by have s35 := gD hd 1; clear hd; go_simp; exact kE hK hs),
    (stp rfl fun a u hb hs hl hd K hK => by have s36 := gD hd 2; have c2 := cell_up hb c2; clear hd; go_simp; exact kE hK hs),
    (stp rfl fun a u hb hs hl hd K hK => by have s6 := gL hl 0; clear hd; go_simp; exact kE hK hs),
    (stp rfl fun a u hb hs hl hd K hK => by have s37 := gD hd 3; have s38 := gD hd 4; clear hd; go_simp; exact kE hK hs),
    (stp rfl fun a u hb hs hl hd K hK => by have s34 := gD hd 0; clear hd; go_simp; exact kE hK hs),
    (stp rfl fun a u hb hs hl hd K hK => by have s40 := gD hd 6; clear hd; go_simp; exact kE hK hs),
    trivial⟩ ?_
  clear hs hd zl
  intro a w hb hs hd zl hh
  replace zl := lH hh 5 zl
  replace zl := lH hh 7 zl
  clear hh
  replace hG := hG.after hb
  replace hg := hg.after hb
  replace c2 := cell_up hb c2
  clear hb
  show wpList _ _ _ [_] _ _
  refine tail_op rfl (fun K hK => ?_)
  have q39 := gL zl 1
  have q41 := gL zl 0
  have hfr := hg.free (72)
  have hold := (hg.cell (72)).trans (Array.getElem?_eq_getElem (show 72 < _ by rw [dig_size, hx2]; omega))
  go_simp
  clear hfr hold
  clear q39 q41
  refine hK _ _ ?_
  clear hK K
  change wpList _ _ _ _ a _
  replace hG := hG.set (72) (.int .i64 ((N : Nat) : Int))
  replace hg := hg.set_ (72) (.int .i64 ((N : Nat) : Int))
  rw [dig_nx _ _ _ _ _ hx2] at hg
  revert hG hg
  generalize World.setCell _ _ _ = w
  intro hG hg
  clear c2 hw
  by_cases hfull : N = 64
  ·have hPx : BytesAt w g 8 (piece M q 1) 0 64 := by
    intro j hj
    rw [hg.cell, dig_get_x _ _ _ _ j (by omega), hxb2 j (by have := hN.out; omega), Nat.zero_add, piece_get _ _ _ _ (by omega)]
   refine wp_seq ?_
   refine wp_seq ?_
   have c2 := (hg.cell 72).trans (dig_get_nx _ _ _ _ hx2)
   have hq : ((N : Int) == 64) = true := by rw [beq_iff_eq]; omega
   refine fl2 [.eq 42 _, .eq 43 _, .eq 44 _, .eq 45 _] 4 hs hd zl
    ⟨(stp rfl fun a u hb hs hl hd K hK => by have s0 := gL hl 4; clear hd; go_simp; exact kE hK hs),
     (stp rfl fun a u hb hs hl hd K hK => by have s42 := gD hd 0; clear hd; go_simp; exact kE hK hs),
     (stp rfl fun a u hb hs hl hd K hK => by have s43 := gD hd 1; clear hd; go_simp; exact kE hK hs),
     (stp rfl fun a u hb hs hl hd K hK => by have s44 := gD hd 2; have c2 := cell_up hb c2; clear hd; go_simp; exact kE hK hs),
     trivial⟩ ?_
   clear hs hd zl
   intro a w hb hs hd zl hh
   replace zl := lH hh 3 zl
   clear hh
   replace hG := hG.after hb
   replace hg := hg.after hb
   replace hPx := hPx.after hb
   replace c2 := cell_up hb c2
   clear hb
   show wpList _ _ _ [_] _ _
   refine tail_op rfl (fun K hK => ?_)
   have q45 := gL zl 0
   go_simp
   clear q45
   refine hK _ _ (tP hs hd zl ?_)
   clear hK K hs hd zl
   intro a hs hd zl
   clear c2 hq
   refine wp_cond_true (vL zl 0) ?_
   refine wp_seq ?_
   refine fl2 [.eq 47 _, .eq 48 _, .eq 49 _, .eq 50 _, .eq 51 _] 5 hs hd zl
    ⟨(stp rfl fun a u hb hs hl hd K hK => by have s0 := gL hl 6; clear hd; go_simp; exact kE hK hs),
     (stp rfl fun a u hb hs hl hd K hK => by have s0 := gL hl 6; clear hd; go_simp; exact kE hK hs),
     (stp rfl fun a u hb hs hl hd K hK => by have s48 := gD hd 1; clear hd; go_simp; exact kE hK hs),
     (stp rfl fun a u hb hs hl hd K hK => by have s49 := gD hd 2; clear hd; go_simp; exact kE hK hs),
     (stp rfl fun a u hb hs hl hd K hK => by have s50 := gD hd 3; clear hd; go_simp; exact kE hK hs),
     trivial⟩ ?_
   clear hs hd zl
   intro a w hb hs hd zl hh
   replace zl := lH hh 0 zl
   replace zl := lH hh 4 zl
   clear hh
   replace hG := hG.after hb
   replace hg := hg.after hb
   replace hPx := hPx.after hb
   clear hb
   show wpList _ _ _ [_] _ _
   refine tail_op rfl (fun K hK => ?_)
   have q47 := gL zl 1
   have q51 := gL zl 0
   go_simp
   refine (c_shaBlockN g g 8 (shaBlks m 0 q sha0) x2 ((N : Nat) : Int) ((M.length : Nat) : Int) 64 64 (piece M q 1) _ (piece_length _ _ _ (by have := hN.out; omega)) (by omega) (by omega) (by omega) hg hx2 (piece_bytes hM8 _ _) hPx hg.lt (hKt.gb hG (fun e => hg0 e.symm))).mono ?_
   rintro e w2 ⟨rfl, hg2, hb2⟩
   clear q47 q51
   refine hK _ _ (tP hs hd zl ?_)
   clear hK K hs hd zl
   intro a hs hd zl
   replace hG := hG.trans hg2
   rw [hfr, show 64 / 64 = 1 from rfl, shaBlks_piece] at hb2
   replace hg := hb2
   clear hg2 hPx
   refine fl2 [.eq 53 _, .eq 54 _, .eq 55 _] 3 hs hd zl
    ⟨(stp rfl fun a u hb hs hl hd K hK => by have s0 := gL hl 9; clear hd; go_simp; exact kE hK hs),
     (stp rfl fun a u hb hs hl hd K hK => by have s53 := gD hd 0; clear hd; go_simp; exact kE hK hs),
     (stp rfl fun a u hb hs hl hd K hK => by have s54 := gD hd 1; clear hd; go_simp; exact kE hK hs),
     trivial⟩ ?_
   clear hs hd zl
   intro a w hb hs hd zl hh
   replace zl := lH hh 2 zl
   clear hh
   replace hG := hG.after hb
   replace hg := hg.after hb
   clear hb
   show wpList _ _ _ [_] _ _
   refine tail_op rfl (fun K hK => ?_)
   have q55 := gL zl 0
   have hfr := hg.free (72)
   have hold := (hg.cell (72)).trans (Array.getElem?_eq_getElem (show 72 < _ by rw [dig_size, hx2]; omega))
   go_simp
   clear hfr hold
   clear q55
   refine hK _ _ ?_
   clear hK K
   change wpList _ _ _ _ a _
   replace hG := hG.set (72) (.int .i64 0)
   replace hg := hg.set_ (72) (.int .i64 0)
   rw [dig_nx _ _ _ _ _ hx2] at hg
   revert hG hg
   generalize World.setCell _ _ _ = w
   intro hG hg
   have hq1 : (n1 : Int) ≤ (c : Int) := by omega
   have hq2 : (n1 : Int) ≤ (p.length : Int) := by omega
   have hq3 : (p.length : Int) ≤ (c : Int) := by omega
   refine fl2 [.eq 56 _, .eq 57 _, .eq 58 _] 3 hs hd zl
    ⟨(stp rfl fun a u hb hs hl hd K hK => by have s1 := gL hl 11; clear hd; go_simp; exact kE hK hs),
     (stp rfl fun a u hb hs hl hd K hK => by have s6 := gL hl 8; clear hd; go_simp; exact kE hK hs),
     (stp rfl fun a u hb hs hl hd K hK => by have s56 := gD hd 0; have s57 := gD hd 1; clear hd; go_simp; exact kE hK hs),
     trivial⟩ ?_
   clear hs hd zl
   intro a w hb hs hd zl hh
   replace zl := lH hh 2 zl
   clear hh
   replace hG := hG.after hb
   replace hg := hg.after hb
   clear hb
   show wpList _ _ _ [_] _ _
   refine tail_op rfl (fun K hK => ?_)
   have q58 := gL zl 0
   go_simp
   clear q58
   refine hK _ _ ?_
   clear hK K
   obtain ⟨s58, -, -, -, -, -, -, -, -, -, -, s0, s1, s4, s5, -, -, -⟩ := zl
   refine act_put (d := 1) _ hs hd (by decide) [(0, _), (4, _), (5, _), (58, _)] ⟨s0, s4, s5, s58, trivial⟩ rfl ?_
   clear hs hd s0 s1 s4 s5 s58
   intro a hs hd zl
   clear hq1 hq2 hq3
   obtain ⟨s1, s0, s4, s5, -, -⟩ := zl
   refine hQ a w _ (p.length - n1) (c - n1) ?_ (by omega) (by omega) hs hd ⟨s0, s1, s4, s5, trivial⟩ hG (.inr ⟨x2, q + 1, ⟨hx2, hx12⟩, by have := hN.out; omega, hg⟩)
   by_cases h : p.length - n1 = 0
   ·exact .inl h
   ·exact .inr (by rw [if_neg (by omega), show p.length - (p.length - n1) = n1 by omega])
  ·refine wp_seq ?_
   refine wp_seq ?_
   have c2 := (hg.cell 72).trans (dig_get_nx _ _ _ _ hx2)
   have hq : ((N : Int) == 64) = false := by rw [beq_eq_false_iff_ne]; omega
   refine fl2 [.eq 42 _, .eq 43 _, .eq 44 _, .eq 45 _] 4 hs hd zl
    ⟨(stp rfl fun a u hb hs hl hd K hK => by have s0 := gL hl 4; clear hd; go_simp; exact kE hK hs),
     (stp rfl fun a u hb hs hl hd K hK => by have s42 := gD hd 0; clear hd; go_simp; exact kE hK hs),
     (stp rfl fun a u hb hs hl hd K hK => by have s43 := gD hd 1; clear hd; go_simp; exact kE hK hs),
     (stp rfl fun a u hb hs hl hd K hK => by have s44 := gD hd 2; have c2 := cell_up hb c2; clear hd; go_simp; exact kE hK hs),
     trivial⟩ ?_
   clear hs hd zl
   intro a w hb hs hd zl hh
   replace zl := lH hh 3 zl
   clear hh
   replace hG := hG.after hb
   replace hg := hg.after hb
   replace c2 := cell_up hb c2
   clear hb
   show wpList _ _ _ [_] _ _
   refine tail_op rfl (fun K hK => ?_)
   have q45 := gL zl 0
   go_simp
   clear q45
   refine hK _ _ (tP hs hd zl ?_)
   clear hK K hs hd zl
   intro a hs hd zl
   clear c2 hq
   refine wp_cond_false (vL zl 0) ?_
   refine wp_skip ?_
   have hq1 : (n1 : Int) ≤ (c : Int) := by omega
   have hq2 : (n1 : Int) ≤ (p.length : Int) := by omega
   have hq3 : (p.length : Int) ≤ (c : Int) := by omega
   refine fl2 [.eq 56 _, .eq 57 _, .eq 58 _] 3 hs hd zl
    ⟨(stp rfl fun a u hb hs hl hd K hK => by have s1 := gL hl 7; clear hd; go_simp; exact kE hK hs),
     (stp rfl fun a u hb hs hl hd K hK => by have s6 := gL hl 4; clear hd; go_simp; exact kE hK hs),
     (stp rfl fun a u hb hs hl hd K hK => by have s56 := gD hd 0; have s57 := gD hd 1; clear hd; go_simp; exact kE hK hs),
     trivial⟩ ?_
   clear hs hd zl
   intro a w hb hs hd zl hh
   replace zl := lH hh 2 zl
   clear hh
   replace hG := hG.after hb
   replace hg := hg.after hb
   clear hb
   show wpList _ _ _ [_] _ _
   refine tail_op rfl (fun K hK => ?_)
   have q58 := gL zl 0
   go_simp
   clear q58
   refine hK _ _ ?_
   clear hK K
   obtain ⟨s58, -, -, -, -, -, -, s0, s1, s4, s5, -, -, -⟩ := zl
   refine act_put (d := 1) _ hs hd (by decide) [(0, _), (4, _), (5, _), (58, _)] ⟨s0, s4, s5, s58, trivial⟩ rfl ?_
   clear hs hd s0 s1 s4 s5 s58
   intro a hs hd zl
   clear hq1 hq2 hq3
   have hnl : n1 = p.length := by have := hN.out; have := hn1.out; omega
   have h1 : M.length / 64 = q := by have := hN.out; omega
   have h2 : M.length % 64 = N := by have := hN.out; omega
   obtain ⟨s1, s0, s4, s5, -, -⟩ := zl
   refine hQ a w _ (p.length - n1) (c - n1) (.inl (by omega)) (by omega) (by omega) hs hd ⟨s0, s1, s4, s5, trivial⟩ hG (.inl ⟨by omega, x2, ⟨hx2, hx12⟩, ?_, fun j hj => ?_⟩)
   ·rw [h1, h2, ← hfr]; exact hg
   ·rw [h1]; exact hxb2 j (by have := hN.out; omega)
set_option maxHeartbeats 4000000 in
set_option maxRecDepth 100000 in
theorem wr_A0 {Q : Exit → Act → World → Prop} {g b o c : Nat} {m p M : List Int} {v4 v5 : Value} {w0 : World} (a : Act) (w : World) (hs : SzIs a 95) (hd : DfNil a)
  (s0 : a.tmps.getD 0 undef = .pointer (some ⟨g, 0, none⟩)) (s1 : a.tmps.getD 1 undef = .slice none 0 0) (s4 : a.tmps.getD 4 undef = v4) (s5 : a.tmps.getD 5 undef = v5)
  (hM : Is M (m ++ p)) (hMl : m.length + p.length = M.length) (hlen : M.length ≤ 1000000000000) (hM8 : Bytes M) (hG : GB w0 w g) (hP : BytesAt w0 b o p 0 p.length) (hbg : 0 < p.length → b ≠ g) (hKt : KTab w0 0) (hg0 : g ≠ 0) (hm8 : Bytes m) (hp0 : Is p []) {x : Array Value} {q r : Nat} (hmq : 64 * q + r = m.length) (hr : r < 64) (hx : x.size = 64) (hx1 : One x) (hg : Blk w g 122 (dig (shaBlks m 0 q sha0) x ((r : Nat) : Int) ((M.length : Nat) : Int))) (hxb : ∀ j, j < r → x[j]? = some (.int .u8 (m.getD (64 * q + j) 0)))
  (hQ : ∀ (a : Act) (w : World) (P : Option Addr) (n c : Nat), (n = 0 ∨ P = some ⟨b, o + (p.length - n), none⟩) → n ≤ p.length → n ≤ c → SzIs a 95 → DfNil a → LiveAll [(0, .pointer (some ⟨g, 0, none⟩)), (1, .slice P n c), (4, v4), (5, v5)] a → GB w0 w g → MidD w g M n → Q .normal a w) : wrA.wp Tryd.prog Q a w := by
 conv => arg 2; whnf
 have hfr : shaBlks m 0 q sha0 = shaBlks M 0 q sha0 := by
  have h := shaBlks_front hM
  rwa [show m.length / 64 = q by omega] at h
 by_cases h0 : r = 0
 ·subst h0
  have hpl : p.length = 0 := by rw [hp0.out]; rfl
  refine wp_seq ?_
  have c2 := (hg.cell 72).trans (dig_get_nx _ _ _ _ hx)
  refine fl2 (F := [(0, _), (1, _), (4, _), (5, _)]) [.eq 19 _, .eq 20 _, .eq 21 _, .eq 22 _] 4 hs hd ⟨s0, s1, s4, s5, trivial⟩
   ⟨(stp rfl fun a u hb hs hl hd K hK => by have s0 := gL hl 0; clear hd; go_simp; exact kE hK hs),
    (stp rfl fun a u hb hs hl hd K hK => by have s19 := gD hd 0; clear hd; go_simp; exact kE hK hs),
    (stp rfl fun a u hb hs hl hd K hK => by have s20 := gD hd 1; clear hd; go_simp; exact kE hK hs),
    (stp rfl fun a u hb hs hl hd K hK => by have s21 := gD hd 2; have c2 := cell_up hb c2; clear hd; go_simp; exact kE hK hs),
    trivial⟩ ?_
  clear hs hd s0 s1 s4 s5
  intro a w hb hs hd zl hh
  replace zl := lH hh 3 zl
  clear hh
  replace hG := hG.after hb
  replace hg := hg.after hb
  replace c2 := cell_up hb c2
  clear hb
  show wpList _ _ _ [_] _ _
  refine tail_op rfl (fun K hK => ?_)
  have q22 := gL zl 0
  go_simp
  clear q22
  refine hK _ _ (tP hs hd zl ?_)
  clear hK K hs hd zl
  intro a hs hd zl
  clear c2
  refine wp_cond_false (vL zl 0) ?_
  refine wp_skip ?_
  obtain ⟨s23, -, s0, s1, s4, s5, -⟩ := zl
  refine hQ a w _ 0 0 (.inl rfl) (Nat.zero_le _) (Nat.le_refl _) hs hd ⟨s0, s1, s4, s5, trivial⟩ hG (.inr ⟨x, q, ⟨hx, hx1⟩, by omega, ?_⟩)
  rw [← hfr]
  exact hg
 ·have hpl : p.length = 0 := by rw [hp0.out]; rfl
  have hBs : Bs w none p := by rw [hp0.out]; exact Bs.nil _ _
  obtain ⟨n1, hn1⟩ : ∃ n1, Is (min p.length (64 - r)) n1 := is_self _
  refine wp_seq ?_
  have c2 := (hg.cell 72).trans (dig_get_nx _ _ _ _ hx)
  have hlt : decide (0 < r) = true := by simp; omega
  refine fl2 (F := [(0, _), (1, _), (4, _), (5, _)]) [.eq 19 _, .eq 20 _, .eq 21 _, .eq 22 _] 4 hs hd ⟨s0, s1, s4, s5, trivial⟩
   ⟨(stp rfl fun a u hb hs hl hd K hK => by have s0 := gL hl 0; clear hd; go_simp; exact kE hK hs),
    (stp rfl fun a u hb hs hl hd K hK => by have s19 := gD hd 0; clear hd; go_simp; exact kE hK hs),
    (stp rfl fun a u hb hs hl hd K hK => by have s20 := gD hd 1; clear hd; go_simp; exact kE hK hs),
    (stp rfl fun a u hb hs hl hd K hK => by have s21 := gD hd 2; have c2 := cell_up hb c2; clear hd; go_simp; exact kE hK hs),
    trivial⟩ ?_
  clear hs hd s0 s1 s4 s5
  intro a w hb hs hd zl hh
  replace zl := lH hh 3 zl
  clear hh
  replace hG := hG.after hb
  replace hg := hg.after hb
  replace hBs := hBs.after hb
  replace c2 := cell_up hb c2
  clear hb
  show wpList _ _ _ [_] _ _
  refine tail_op rfl (fun K hK => ?_)
  have q22 := gL zl 0
  go_simp
  clear q22
  refine hK _ _ (tP hs hd zl ?_)
  clear hK K hs hd zl
  intro a hs hd zl
  clear c2 hlt
  refine wp_cond_true (vL zl 0) ?_
  refine wp_seq ?_
  have c2 := (hg.cell 72).trans (dig_get_nx _ _ _ _ hx)
  have hr2 : (r : Int) ≤ 64 := by omega
  refine fl2 [.eq 24 _, .eq 25 _, .eq 26 _, .eq 27 _, .eq 28 _, .eq 29 _, .eq 30 _, .eq 31 _, .eq 32 _] 9 hs hd zl
   ⟨(stp rfl fun a u hb hs hl hd K hK => by have s0 := gL hl 2; clear hd; go_simp; exact kE hK hs),
    (stp rfl fun a u hb hs hl hd K hK => by have s24 := gD hd 0; clear hd; go_simp; exact kE hK hs),
    (stp rfl fun a u hb hs hl hd K hK => by have s25 := gD hd 1; clear hd; go_simp; exact kE hK hs),
    (stp rfl fun a u hb hs hl hd K hK => by have s0 := gL hl 2; clear hd; go_simp; exact kE hK hs),
    (stp rfl fun a u hb hs hl hd K hK => by have s27 := gD hd 3; clear hd; go_simp; exact kE hK hs),
    (stp rfl fun a u hb hs hl hd K hK => by have s28 := gD hd 4; clear hd; go_simp; exact kE hK hs),
    (stp rfl fun a u hb hs hl hd K hK => by have s29 := gD hd 5; have c2 := cell_up hb c2; clear hd; go_simp; exact kE hK hs),
    (stp rfl fun a u hb hs hl hd K hK => by have s26 := gD hd 2; have s30 := gD hd 6; clear hd; go_simp; exact kE hK hs),
    (stp rfl fun a u hb hs hl hd K hK => by have s1 := gL hl 3; clear hd; go_simp; exact kE hK hs),
    trivial⟩ ?_
  clear hs hd zl
  intro a w hb hs hd zl hh
  replace zl := lH hh 7 zl
  replace zl := lH hh 8 zl
  clear hh
  replace hG := hG.after hb
  replace hg := hg.after hb
  replace hBs := hBs.after hb
  replace c2 := cell_up hb c2
  clear hb
  show wpList _ _ _ [_, _] _ _
  refine tail_op rfl (fun K hK => ?_)
  have q31 := gL zl 1
  have q32 := gL zl 0
  obtain ⟨s32, s31, -, -, s0, s1, s4, s5, -⟩ := zl
  rw [if_neg (by omega)] at s31
  refine wp_copy_dig (off := r) (dLen := 64 - r) (dCap := 64 - r) (.tmp 31) (.tmp 32) rfl s31 (c := 0) (show a.tmps.getD 32 undef = _ by rw [s32, hpl]) hg hx (by omega) hBs ?_
  intro w2 hg2 hb2
  rw [hn1.out]
  clear q31 q32
  refine hK _ _ ?_
  clear hK K
  refine act_put (d := 33) _ hs hd (by decide) [(0, _), (1, _), (4, _), (5, _), (31, _), (32, _)] ⟨s0, s1, s4, s5, s31, s32, trivial⟩ rfl ?_
  clear hs hd s0 s1 s4 s5 s31 s32
  intro a hs hd zl
  replace hG := hG.trans hg2
  replace hg := hb2
  clear hg2 hBs
  obtain ⟨x2, hx2e⟩ : ∃ x2, Is (putX x r (p.take (64 - r))) x2 := is_self _
  have htl : (p.take (64 - r)).length = n1 := by rw [List.length_take, ← hn1.out]; omega
  have hn1l : n1 ≤ p.length := by rw [← hn1.out]; omega
  have hn1r : n1 ≤ 64 - r := by rw [← hn1.out]; omega
  have hx2 : x2.size = 64 := by rw [← hx2e.out, putX_size x r _ (by omega)]; exact hx
  have hx12 : One x2 := by rw [← hx2e.out]; exact hx1.putX r _
  have hxb2 : ∀ j, j < r + n1 → x2[j]? = some (.int .u8 (M.getD (64 * q + j) 0)) := by
   intro j hj
   rw [← hx2e.out]
   by_cases hjr : j < r
   ·rw [putX_lo _ _ _ (by omega) j hjr, hxb j hjr, hM.out, getD_app_lo p (by omega)]
   ·obtain ⟨i, rfl⟩ : ∃ i, j = r + i := ⟨j - r, by omega⟩
    rw [putX_in _ _ _ (by omega) i (by omega), getD_take' _ _ _ (by omega), hM.out, show 64 * q + (r + i) = m.length + i by omega, getD_app]
  rw [hx2e.out] at hg
  clear hx hxb hx2e
  refine tail_op rfl (fun K hK => ?_)
  have q33 := gL zl 0
  go_simp
  clear q33
  refine hK _ _ (tP hs hd zl ?_)
  clear hK K hs hd zl
  intro a hs hd zl
  clear c2 hr2
  refine wp_seq ?_
  have c2 := (hg.cell 72).trans (dig_get_nx _ _ _ _ hx2)
  obtain ⟨N, hN⟩ : ∃ N, Is (r + n1) N := is_self _
  have hNe := hN.out
  have hw : IntKind.i64.wrap ((r : Int) + (n1 : Int)) = ((N : Nat) : Int) := by rw [IntWalk.i64_in _ (by omega)]; omega
  clear hNe
  refine fl2 [.eq 34 _, .eq 35 _, .eq 36 _, .eq 37 _, .eq 38 _, .eq 39 _, .eq 40 _, .eq 41 _] 8 hs hd zl
   ⟨(stp rfl fun a u hb hs hl hd K hK => by have s0 := gL hl 2; clear hd; go_simp; exact kE hK hs),
    (stp rfl fun a u hb hs hl hd K hK => by have s34 := gD hd 0; clear hd; go_simp; exact kE hK hs),
    (stp rfl fun a u hb hs hl hd K hK => by have s35 := gD hd 1; clear hd; go_simp; exact kE hK hs),
    (stp rfl fun a u hb hs hl hd K hK => by have s36 := gD hd 2; have c2 := cell_up hb c2; clear hd; go_simp; exact kE hK hs),
    (stp rfl fun a u hb hs hl hd K hK => by have s6 := gL hl 0; clear hd; go_simp; exact kE hK hs),
    (stp rfl fun a u hb hs hl hd K hK => by have s37 := gD hd 3; have s38 := gD hd 4; clear hd; go_simp; exact kE hK hs),
    (stp rfl fun a u hb hs hl hd K hK => by have s34 := gD hd 0; clear hd; go_simp; exact kE hK hs),
    (stp rfl fun a u hb hs hl hd K hK => by have s40 := gD hd 6; clear hd; go_simp; exact kE hK hs),
    trivial⟩ ?_
  clear hs hd zl
  intro a w hb hs hd zl hh
  replace zl := lH hh 5 zl
  replace zl := lH hh 7 zl
  clear hh
  replace hG := hG.after hb
  replace hg := hg.after hb
  replace c2 := cell_up hb c2
  clear hb
  show wpList _ _ _ [_] _ _
  refine tail_op rfl (fun K hK => ?_)
  have q39 := gL zl 1
  have q41 := gL zl 0
  have hfr := hg.free (72)
  have hold := (hg.cell (72)).trans (Array.getElem?_eq_getElem (show 72 < _ by rw [dig_size, hx2]; omega))
  go_simp
  clear hfr hold
  clear q39 q41
  refine hK _ _ ?_
  clear hK K
  change wpList _ _ _ _ a _
  replace hG := hG.set (72) (.int .i64 ((N : Nat) : Int))
  replace hg := hg.set_ (72) (.int .i64 ((N : Nat) : Int))
  rw [dig_nx _ _ _ _ _ hx2] at hg
  revert hG hg
  generalize World.setCell _ _ _ = w
  intro hG hg
  clear c2 hw
  by_cases hfull : N = 64
  ·have hPx : BytesAt w g 8 (piece M q 1) 0 64 := by
    intro j hj
    rw [hg.cell, dig_get_x _ _ _ _ j (by omega), hxb2 j (by have := hN.out; omega), Nat.zero_add, piece_get _ _ _ _ (by omega)]
   refine wp_seq ?_
   refine wp_seq ?_
   have c2 := (hg.cell 72).trans (dig_get_nx _ _ _ _ hx2)
   have hq : ((N : Int) == 64) = true := by rw [beq_iff_eq]; omega
   refine fl2 [.eq 42 _, .eq 43 _, .eq 44 _, .eq 45 _] 4 hs hd zl
    ⟨(stp rfl fun a u hb hs hl hd K hK => by have s0 := gL hl 4; clear hd; go_simp; exact kE hK hs),
     (stp rfl fun a u hb hs hl hd K hK => by have s42 := gD hd 0; clear hd; go_simp; exact kE hK hs),
     (stp rfl fun a u hb hs hl hd K hK => by have s43 := gD hd 1; clear hd; go_simp; exact kE hK hs),
     (stp rfl fun a u hb hs hl hd K hK => by have s44 := gD hd 2; have c2 := cell_up hb c2; clear hd; go_simp; exact kE hK hs),
     trivial⟩ ?_
   clear hs hd zl
   intro a w hb hs hd zl hh
   replace zl := lH hh 3 zl
   clear hh
   replace hG := hG.after hb
   replace hg := hg.after hb
   replace hPx := hPx.after hb
   replace c2 := cell_up hb c2
   clear hb
   show wpList _ _ _ [_] _ _
   refine tail_op rfl (fun K hK => ?_)
   have q45 := gL zl 0
   go_simp
   clear q45
   refine hK _ _ (tP hs hd zl ?_)
   clear hK K hs hd zl
   intro a hs hd zl
   clear c2 hq
   refine wp_cond_true (vL zl 0) ?_
   refine wp_seq ?_
   refine fl2 [.eq 47 _, .eq 48 _, .eq 49 _, .eq 50 _, .eq 51 _] 5 hs hd zl
    ⟨(stp rfl fun a u hb hs hl hd K hK => by have s0 := gL hl 6; clear hd; go_simp; exact kE hK hs),
     (stp rfl fun a u hb hs hl hd K hK => by have s0 := gL hl 6; clear hd; go_simp; exact kE hK hs),
     (stp rfl fun a u hb hs hl hd K hK => by have s48 := gD hd 1; clear hd; go_simp; exact kE hK hs),
     (stp rfl fun a u hb hs hl hd K hK => by have s49 := gD hd 2; clear hd; go_simp; exact kE hK hs),
     (stp rfl fun a u hb hs hl hd K hK => by have s50 := gD hd 3; clear hd; go_simp; exact kE hK hs),
     trivial⟩ ?_
   clear hs hd zl
   intro a w hb hs hd zl hh
   replace zl := lH hh 0 zl
   replace zl := lH hh 4 zl
   clear hh
   replace hG := hG.after hb
   replace hg := hg.after hb
   replace hPx := hPx.after hb
   clear hb
   show wpList _ _ _ [_] _ _
   refine tail_op rfl (fun K hK => ?_)
   have q47 := gL zl 1
   have q51 := gL zl 0
   go_simp
   refine (c_shaBlockN g g 8 (shaBlks m 0 q sha0) x2 ((N : Nat) : Int) ((M.length : Nat) : Int) 64 64 (piece M q 1) _ (piece_length _ _ _ (by have := hN.out; omega)) (by omega) (by omega) (by omega) hg hx2 (piece_bytes hM8 _ _) hPx hg.lt (hKt.gb hG (fun e => hg0 e.symm))).mono ?_
   rintro e w2 ⟨rfl, hg2, hb2⟩
   clear q47 q51
   refine hK _ _ (tP hs hd zl ?_)
   clear hK K hs hd zl
   intro a hs hd zl
   replace hG := hG.trans hg2
   rw [hfr, show 64 / 64 = 1 from rfl, shaBlks_piece] at hb2
   replace hg := hb2
   clear hg2 hPx
   refine fl2 [.eq 53 _, .eq 54 _, .eq 55 _] 3 hs hd zl
    ⟨(stp rfl fun a u hb hs hl hd K hK => by have s0 := gL hl 9; clear hd; go_simp; exact kE hK hs),
     (stp rfl fun a u hb hs hl hd K hK => by have s53 := gD hd 0; clear hd; go_simp; exact kE hK hs),
     (stp rfl fun a u hb hs hl hd K hK => by have s54 := gD hd 1; clear hd; go_simp; exact kE hK hs),
     trivial⟩ ?_
   clear hs hd zl
   intro a w hb hs hd zl hh
   replace zl := lH hh 2 zl
   clear hh
   replace hG := hG.after hb
   replace hg := hg.after hb
   clear hb
   show wpList _ _ _ [_] _ _
   refine tail_op rfl (fun K hK => ?_)
   have q55 := gL zl 0
   have hfr := hg.free (72)
   have hold := (hg.cell (72)).trans (Array.getElem?_eq_getElem (show 72 < _ by rw [dig_size, hx2]; omega))
   go_simp
   clear hfr hold
   clear q55
   refine hK _ _ ?_
   clear hK K
   change wpList _ _ _ _ a _
   replace hG := hG.set (72) (.int .i64 0)
   replace hg := hg.set_ (72) (.int .i64 0)
   rw [dig_nx _ _ _ _ _ hx2] at hg
   revert hG hg
   generalize World.setCell _ _ _ = w
   intro hG hg
   have hz : n1 = 0 := by omega
   subst hz
   refine fl2 [.eq 56 _, .eq 57 _, .eq 58 _] 3 hs hd zl
    ⟨(stp rfl fun a u hb hs hl hd K hK => by have s1 := gL hl 11; clear hd; go_simp; exact kE hK hs),
     (stp rfl fun a u hb hs hl hd K hK => by have s6 := gL hl 8; clear hd; go_simp; exact kE hK hs),
     (stp rfl fun a u hb hs hl hd K hK => by have s56 := gD hd 0; have s57 := gD hd 1; clear hd; go_simp; exact kE hK hs),
     trivial⟩ ?_
   clear hs hd zl
   intro a w hb hs hd zl hh
   replace zl := lH hh 2 zl
   clear hh
   replace hG := hG.after hb
   replace hg := hg.after hb
   clear hb
   show wpList _ _ _ [_] _ _
   refine tail_op rfl (fun K hK => ?_)
   have q58 := gL zl 0
   go_simp
   clear q58
   refine hK _ _ ?_
   clear hK K
   obtain ⟨s58, -, -, -, -, -, -, -, -, -, -, s0, s1, s4, s5, -, -, -⟩ := zl
   refine act_put (d := 1) _ hs hd (by decide) [(0, _), (4, _), (5, _), (58, _)] ⟨s0, s4, s5, s58, trivial⟩ rfl ?_
   clear hs hd s0 s1 s4 s5 s58
   intro a hs hd zl
   obtain ⟨s1, s0, s4, s5, -, -⟩ := zl
   exact hQ a w _ 0 0 (.inl rfl) (Nat.zero_le _) (Nat.le_refl _) hs hd ⟨s0, s1, s4, s5, trivial⟩ hG (.inr ⟨x2, q + 1, ⟨hx2, hx12⟩, by have := hN.out; omega, hg⟩)
  ·refine wp_seq ?_
   refine wp_seq ?_
   have c2 := (hg.cell 72).trans (dig_get_nx _ _ _ _ hx2)
   have hq : ((N : Int) == 64) = false := by rw [beq_eq_false_iff_ne]; omega
   refine fl2 [.eq 42 _, .eq 43 _, .eq 44 _, .eq 45 _] 4 hs hd zl
    ⟨(stp rfl fun a u hb hs hl hd K hK => by have s0 := gL hl 4; clear hd; go_simp; exact kE hK hs),
     (stp rfl fun a u hb hs hl hd K hK => by have s42 := gD hd 0; clear hd; go_simp; exact kE hK hs),
     (stp rfl fun a u hb hs hl hd K hK => by have s43 := gD hd 1; clear hd; go_simp; exact kE hK hs),
     (stp rfl fun a u hb hs hl hd K hK => by have s44 := gD hd 2; have c2 := cell_up hb c2; clear hd; go_simp; exact kE hK hs),
     trivial⟩ ?_
   clear hs hd zl
   intro a w hb hs hd zl hh
   replace zl := lH hh 3 zl
   clear hh
   replace hG := hG.after hb
   replace hg := hg.after hb
   replace c2 := cell_up hb c2
   clear hb
   show wpList _ _ _ [_] _ _
   refine tail_op rfl (fun K hK => ?_)
   have q45 := gL zl 0
   go_simp
   clear q45
   refine hK _ _ (tP hs hd zl ?_)
   clear hK K hs hd zl
   intro a hs hd zl
   clear c2 hq
   refine wp_cond_false (vL zl 0) ?_
   refine wp_skip ?_
   have hz : n1 = 0 := by omega
   subst hz
   refine fl2 [.eq 56 _, .eq 57 _, .eq 58 _] 3 hs hd zl
    ⟨(stp rfl fun a u hb hs hl hd K hK => by have s1 := gL hl 7; clear hd; go_simp; exact kE hK hs),
     (stp rfl fun a u hb hs hl hd K hK => by have s6 := gL hl 4; clear hd; go_simp; exact kE hK hs),
     (stp rfl fun a u hb hs hl hd K hK => by have s56 := gD hd 0; have s57 := gD hd 1; clear hd; go_simp; exact kE hK hs),
     trivial⟩ ?_
   clear hs hd zl
   intro a w hb hs hd zl hh
   replace zl := lH hh 2 zl
   clear hh
   replace hG := hG.after hb
   replace hg := hg.after hb
   clear hb
   show wpList _ _ _ [_] _ _
   refine tail_op rfl (fun K hK => ?_)
   have q58 := gL zl 0
   go_simp
   clear q58
   refine hK _ _ ?_
   clear hK K
   obtain ⟨s58, -, -, -, -, -, -, s0, s1, s4, s5, -, -, -⟩ := zl
   refine act_put (d := 1) _ hs hd (by decide) [(0, _), (4, _), (5, _), (58, _)] ⟨s0, s4, s5, s58, trivial⟩ rfl ?_
   clear hs hd s0 s1 s4 s5 s58
   intro a hs hd zl
   have h1 : M.length / 64 = q := by have := hN.out; omega
   have h2 : M.length % 64 = N := by have := hN.out; omega
   obtain ⟨s1, s0, s4, s5, -, -⟩ := zl
   refine hQ a w _ 0 0 (.inl rfl) (Nat.zero_le _) (Nat.le_refl _) hs hd ⟨s0, s1, s4, s5, trivial⟩ hG (.inl ⟨by omega, x2, ⟨hx2, hx12⟩, ?_, fun j hj => ?_⟩)
   ·rw [h1, h2, ← hfr]; exact hg
   ·rw [h1]; exact hxb2 j (by have := hN.out; omega)
set_option maxHeartbeats 4000000 in
set_option maxRecDepth 100000 in
/-- 'Write': the digest takes up the bytes. -/
theorem c_Write (g c : Nat) (m p : List Int) (A : Option Addr) (w : World) (hA : (A = none ∧ c = 0 ∧ Is p []) ∨ ∃ b o, A = some ⟨b, o, none⟩) (hD : Dst w g m) (hp : Bs w A p) (hfar : Far A p (some g)) (hcap : p.length ≤ c) (hm8 : Bytes m) (hp8 : Bytes p)
  (hlen : m.length + p.length ≤ 1000000000000) (hKt : KTab w 0) (hg0 : g ≠ 0) :
  Calls Tryd.prog 77 #[.pointer (some ⟨g, 0, none⟩), .slice A p.length c] w fun e w' => e = .returned (.tuple #[.int .i64 ((p.length : Nat) : Int), .nilIface]) ∧ w.grownBy w' (some g) ∧ Dst w' g (m ++ p) := by
 obtain ⟨M, hM⟩ : ∃ M, Is (m ++ p) M := is_self _
 have hMl : m.length + p.length = M.length := by rw [← hM.out, List.length_append]
 have hM8 : Bytes M := by rw [← hM.out]; exact hm8.append hp8
 rw [hM.out]
 obtain ⟨x, ⟨hx, hx1⟩, hg, hxb⟩ := hD
 obtain ⟨w0, hw0⟩ : ∃ w0, Is w w0 := is_self _
 have hE : GB w0 w g := by rw [← hw0.out]; exact GB.refl w g
 have hp0 : Bs w0 A p := by rw [← hw0.out]; exact hp
 have hK0 : KTab w0 0 := by rw [← hw0.out]; exact hKt
 clear hp hKt
 have HM := Is.hid hMl
 clear hMl
 refine enter_abs Tryd.func77 rfl 95 rfl (by simp) ?_
 intro a hs hd hargs
 have s0 := hargs 0 _ rfl
 have s1 := hargs 1 _ rfl
 clear hargs
 show Code.wp _ _ (bodyPost _ _ (fun e w' => e = _ ∧ w.grownBy w' (some g) ∧ Dst w' g M)) a w
 rw [hw0.out]
 rw [hw0.out] at hE hg
 have hG := hE
 clear hE hw0 w
 refine wp_seq ?_
 refine fl2 (F := [(0, _), (1, _)]) [.eq 4 _] 1 hs hd ⟨s0, s1, trivial⟩
  ⟨(stp rfl fun a u hb hs hl hd K hK => by clear hd; go_simp; exact kE hK hs),
   trivial⟩ ?_
 clear hs hd s0 s1
 intro a w hb hs hd zl hh
 replace zl := lH hh 0 zl
 clear hh
 replace hG := hG.after hb
 replace hg := hg.after hb
 clear hb
 show wpList _ _ _ [_] _ _
 refine tail_op rfl (fun K hK => ?_)
 go_simp
 refine hK _ _ (tP hs hd zl ?_)
 clear hK K hs hd zl
 intro a hs hd zl
 refine wp_seq ?_
 refine fl2 [.eq 8 _, .eq 9 _] 2 hs hd zl
  ⟨(stp rfl fun a u hb hs hl hd K hK => by have s1 := gL hl 3; clear hd; go_simp; exact kE hK hs),
   (stp rfl fun a u hb hs hl hd K hK => by have s8 := gD hd 0; clear hd; go_simp; exact kE hK hs),
   trivial⟩ ?_
 clear hs hd zl
 intro a w hb hs hd zl hh
 replace zl := lH hh 1 zl
 clear hh
 replace hG := hG.after hb
 replace hg := hg.after hb
 clear hb
 show wpList _ _ _ [_] _ _
 refine tail_op rfl (fun K hK => ?_)
 have q9 := gL zl 0
 go_simp
 clear q9
 refine hK _ _ ?_
 clear hK K
 obtain ⟨s9, s5, s4, s0, s1, -⟩ := zl
 refine act_put (d := 4) _ hs hd (by decide) [(0, _), (1, _), (5, _), (9, _)] ⟨s0, s1, s5, s9, trivial⟩ rfl ?_
 clear hs hd s0 s1 s4 s5 s9
 intro a hs hd zl
 refine wp_seq ?_
 have c3 := (hg.cell 73).trans (dig_get_ln _ _ _ _ hx)
 have hw1 : IntKind.u64.wrap (p.length : Int) = (p.length : Int) := IntWalk.u64_in _ (by omega)
 have hw2 : IntKind.u64.wrap ((m.length : Int) + (p.length : Int)) = ((M.length : Nat) : Int) := by rw [IntWalk.u64_in _ (by omega)]; have := HM.out; omega
 refine fl2 [.eq 10 _, .eq 11 _, .eq 12 _, .eq 13 _, .eq 14 _, .eq 15 _, .eq 16 _, .eq 17 _, .eq 18 _] 9 hs hd zl
  ⟨(stp rfl fun a u hb hs hl hd K hK => by have s0 := gL hl 1; clear hd; go_simp; exact kE hK hs),
   (stp rfl fun a u hb hs hl hd K hK => by have s10 := gD hd 0; clear hd; go_simp; exact kE hK hs),
   (stp rfl fun a u hb hs hl hd K hK => by have s11 := gD hd 1; clear hd; go_simp; exact kE hK hs),
   (stp rfl fun a u hb hs hl hd K hK => by have s12 := gD hd 2; have c3 := cell_up hb c3; clear hd; go_simp; exact kE hK hs),
   (stp rfl fun a u hb hs hl hd K hK => by have s4 := gL hl 0; clear hd; go_simp; exact kE hK hs),
   (stp rfl fun a u hb hs hl hd K hK => by have s14 := gD hd 4; clear hd; go_simp; exact kE hK hs),
   (stp rfl fun a u hb hs hl hd K hK => by have s13 := gD hd 3; have s15 := gD hd 5; clear hd; go_simp; exact kE hK hs),
   (stp rfl fun a u hb hs hl hd K hK => by have s10 := gD hd 0; clear hd; go_simp; exact kE hK hs),
   (stp rfl fun a u hb hs hl hd K hK => by have s17 := gD hd 7; clear hd; go_simp; exact kE hK hs),
   trivial⟩ ?_
 clear hs hd zl
 intro a w hb hs hd zl hh
 replace zl := lH hh 6 zl
 replace zl := lH hh 8 zl
 clear hh
 replace hG := hG.after hb
 replace hg := hg.after hb
 replace c3 := cell_up hb c3
 clear hb
 show wpList _ _ _ [_] _ _
 refine tail_op rfl (fun K hK => ?_)
 have q16 := gL zl 1
 have q18 := gL zl 0
 have hfr := hg.free (73)
 have hold := (hg.cell (73)).trans (Array.getElem?_eq_getElem (show 73 < _ by rw [dig_size, hx]; omega))
 go_simp
 clear hfr hold
 clear q16 q18
 refine hK _ _ ?_
 clear hK K
 change wpList _ _ _ _ a _
 replace hG := hG.set (73) (.int .u64 ((M.length : Nat) : Int))
 replace hg := hg.set_ (73) (.int .u64 ((M.length : Nat) : Int))
 rw [dig_ln _ _ _ _ _ hx] at hg
 revert hG hg
 generalize World.setCell _ _ _ = w
 intro hG hg
 clear c3 hw1 hw2
 have hMl := HM.out
 have hmq : 64 * (m.length / 64) + m.length % 64 = m.length := by omega
 refine wp_seq ?_
 obtain ⟨-, -, s4, s0, s1, s5, -, -⟩ := zl
 have hend : ∀ (b o : Nat) (hP : BytesAt w0 b o p 0 p.length) (hbs : 0 < p.length → b < w0.heap.size) (hbg : 0 < p.length → b ≠ g) (a : Act) (w : World) (P : Option Addr) (n c : Nat), (n = 0 ∨ P = some ⟨b, o + (p.length - n), none⟩) → n ≤ p.length → n ≤ c → SzIs a 95 → DfNil a → LiveAll [(0, .pointer (some ⟨g, 0, none⟩)), (1, .slice P n c), (4, .int .i64 ((p.length : Nat) : Int)), (5, .nilIface)] a → GB w0 w g → MidD w g M n → Code.wp Tryd.prog (partAt [true, true, true, true] (Tryd.f77.body.getD .skip)) (bodyPost Tryd.prog Tryd.f77 (fun e w' => e = .returned (.tuple #[.int .i64 ((p.length : Nat) : Int), .nilIface]) ∧ w0.grownBy w' (some g) ∧ Dst w' g M)) a w := by
  intro b o hP hbs hbg a w P n c hPn hn hnc hs hd ⟨s0, s1, s4, s5, _⟩ hG hMid
  conv => arg 2; whnf
  refine wp_seq ?_
  refine wr_B a w hs hd s0 s1 s4 s5 hM.out.symm hMl (by omega) hM8 hG hP hbg hK0 hg0 hbs hnc hPn hn hMid ?_
  intro a w P n c hPn hn h64 hnc hs hd ⟨s0, s1, s4, s5, _⟩ hG hMid
  refine wp_seq ?_
  refine wr_C a w hs hd s0 s1 s4 s5 hM.out.symm hMl (by omega) hM8 hG hP hbg hK0 hg0 hnc hPn hn h64 hMid ?_
  intro a w hs hd ⟨s4, s5, _⟩ hG hDst
  refine wp_ret ?_
  exact end_tmp2 rfl hd s4 s5 ⟨rfl, hG, hDst⟩
 rcases hA with ⟨rfl, rfl, hpn⟩ | ⟨b, o, rfl⟩
 ·have hpl : p.length = 0 := by rw [hpn.out]; rfl
  have hP : BytesAt w0 0 0 p 0 p.length := fun j hj => absurd hj (by omega)
  refine wr_A0 (c := 0) a _ hs hd s0 (by rw [s1, hpl]; rfl) s4 s5 hM.out.symm hMl (by omega) hM8 hG hP (fun h => absurd h (by omega)) hK0 hg0 hm8 hpn hmq (by omega) hx hx1 hg hxb ?_
  intro a w P n c h1 h2 h3 h4 h5 h6 h7 h8
  exact hend 0 0 hP (fun h => absurd h (by omega)) (fun h => absurd h (by omega)) a w P n c h1 h2 h3 h4 h5 h6 h7 h8
 ·have hP : BytesAt w0 b o p 0 p.length := fun j hj => by
   obtain ⟨b', o', e, _, hc⟩ := hp0 j hj
   injection e with e
   injection e with e1 e2
   subst e1 e2
   rw [Nat.zero_add]
   exact hc
  have hne : 0 < p.length → p ≠ [] := fun h e => by rw [e] at h; cases h
  have hbs : 0 < p.length → b < w0.heap.size := fun h => by
   obtain ⟨k, hk, hlt⟩ := hp0.blk (hne h)
   injection hk with hk
   subst hk
   exact hlt
  have hbg : 0 < p.length → b ≠ g := fun h e => hfar (hne h) (by rw [e]; rfl)
  refine wr_A a _ hs hd s0 s1 s4 s5 hM.out.symm hMl (by omega) hM8 hG hP hbg hK0 hg0 hm8 hcap hmq (by omega) hx hx1 hg hxb ?_
  intro a w P n c h1 h2 h3 h4 h5 h6 h7 h8
  exact hend b o hP hbs hbg a w P n c h1 h2 h3 h4 h5 h6 h7 h8
end Go.Proofs.YtcmllcmcbamlbaaDoor
namespace Go.Proofs.YtcmllcmcbamlbaaDoor
open Go.RowKit

theorem put_snoc (cs : Array Value) (o : Nat) (l : List Int) (x : Int) (h : o + l.length < cs.size) : (putX cs o l).setIfInBounds (o + l.length) (.int .u8 x) = putX cs o (l ++ [x]) := by
 apply Array.ext'
 unfold putX
 have h1 : (cs.toList.take o ++ l.map (Value.int .u8)).length = o + l.length := by simp; omega
 simp only [List.setIfInBounds_toArray, List.set_append, h1, Nat.lt_irrefl, if_false, Nat.sub_self, List.map_append, List.length_append, List.length_cons, List.length_nil, List.map_cons, List.map_nil]
 rw [← Nat.add_assoc, show cs.toList.drop (o + l.length) = cs.toList[o + l.length]'(by simpa using h) :: cs.toList.drop (o + l.length + 1) from List.drop_eq_getElem_cons _]
 simp [List.append_assoc]
theorem put_zero {w : World} {g o : Nat} {t : TypeId} {cs : Array Value} {x : Int} (h : o < cs.size) (hg : Blk w g t ((putX cs o []).setIfInBounds o (.int .u8 x))) : Blk w g t (putX cs o [x]) := by
 have e := put_snoc cs o [] x (by simpa using h)
 simp only [List.length_nil, Nat.add_zero, List.nil_append] at e
 rwa [e] at hg
theorem sh64 (v k : Nat) (K : Int) (hK : K = (k : Int)) (hk : k ≤ 56) : IntKind.u8.wrap ((v : Int).fdiv (2 ^ min K.toNat 64)) = ((v / 2 ^ k % 256 : Nat) : Int) := by
 subst hK
 have e : (2 : Int) ^ k = ((2 ^ k : Nat) : Int) := by rw [Int.natCast_pow]; rfl
 rw [IntKind.wrap_u8', Int.toNat_natCast, Nat.min_eq_left (by omega), e, Int.fdiv_eq_ediv_of_nonneg _ (Int.natCast_nonneg _), Int.natCast_emod, Int.natCast_ediv]
 rfl
theorem putX_size' (cs : Array Value) (o : Nat) (l : List Int) (h : o + l.length ≤ cs.size) : (putX cs o l).size = cs.size := putX_size cs o l h

set_option maxHeartbeats 4000000 in
set_option maxRecDepth 100000 in
theorem c_put32 (g o n c : Nat) (t : TypeId) (cs : Array Value) (v : Int) (w : World) (hg : Blk w g t cs) (hv : U32 v) (hn : 4 ≤ n) (ho : o + 4 ≤ cs.size) (h8 : ∀ i, i < 4 → ∃ x, cs[o + i]? = some (.int .u8 x)) :
  Calls Tryd.prog 83 #[.slice (some ⟨g, o, none⟩) n c, .int .u32 v] w fun e w' => e = .returned (.tuple #[]) ∧ w.grownBy w' (some g) ∧ Blk w' g t (putX cs o (be32 v)) := by
 obtain ⟨x3, hx3⟩ := h8 3 (by omega)
 have c3 := (hg.cell (o + 3)).trans hx3
 clear hx3 h8
 unfold U32 at hv
 refine enter_abs Tryd.func83 rfl 26 rfl (by simp) ?_
 intro a hs hd hargs
 have s0 := hargs 0 _ rfl
 have s1 := hargs 1 _ rfl
 clear hargs
 have hG := GB.refl w g
 rw [show cs = putX cs o [] from (putX_nil cs o).symm] at hg
 have n0 : (0 : Int) < (n : Int) := by omega
 have n1 : (1 : Int) < (n : Int) := by omega
 have n2 : (2 : Int) < (n : Int) := by omega
 have n3 : (3 : Int) < (n : Int) := by omega
 have m0 : 0 < n := by omega
 refine wp_seq ?_
 refine fl2 (F := [(0, _), (1, _)]) [.eq 4 _, .eq 5 _] 2 hs hd ⟨s0, s1, trivial⟩
  ⟨(stp rfl fun a u hb hs hl hd K hK => by have s0 := gL hl 0; clear hd; go_simp; exact kE hK hs),
   (stp rfl fun a u hb hs hl hd K hK => by have s4 := gD hd 0; clear hd; go_simp; exact kE hK hs),
   trivial⟩ ?_
 clear hs hd s0 s1
 intro a w hb hs hd zl hh
 replace zl := lH hh 1 zl
 clear hh
 replace hG := hG.after hb
 replace hg := hg.after hb
 replace c3 := cell_up hb c3
 clear hb
 show wpList _ _ _ [_] _ _
 refine tail_op rfl (fun K hK => ?_)
 have q5 := gL zl 0
 go_simp
 clear q5
 refine hK _ _ (tP hs hd zl ?_)
 clear hK K hs hd zl
 intro a hs hd zl
 clear c3
 refine wp_seq ?_
 have hw : IntKind.u8.wrap (v / 16777216) = v / 16777216 := (IntKind.wrap_u8' _).trans (by omega)
 refine fl2 [.eq 7 _, .eq 8 _, .eq 9 _, .eq 10 _, .eq 11 _] 5 hs hd zl
  ⟨(stp rfl fun a u hb hs hl hd K hK => by have s0 := gL hl 2; clear hd; go_simp; exact kE hK hs),
   (stp rfl fun a u hb hs hl hd K hK => by have s1 := gL hl 3; clear hd; go_simp; exact kE hK hs),
   (stp rfl fun a u hb hs hl hd K hK => by have s8 := gD hd 1; clear hd; go_simp; exact kE hK hs),
   (stp rfl fun a u hb hs hl hd K hK => by have s9 := gD hd 2; clear hd; go_simp; exact kE hK hs),
   (stp rfl fun a u hb hs hl hd K hK => by have s7 := gD hd 0; clear hd; go_simp; exact kE hK hs),
   trivial⟩ ?_
 clear hs hd zl
 intro a w hb hs hd zl hh
 replace zl := lH hh 3 zl
 replace zl := lH hh 4 zl
 clear hh
 replace hG := hG.after hb
 replace hg := hg.after hb
 clear hb
 show wpList _ _ _ [_] _ _
 refine tail_op rfl (fun K hK => ?_)
 have q10 := gL zl 1
 have q11 := gL zl 0
 have hfr := hg.free (o)
 have hold := (hg.cell (o)).trans (Array.getElem?_eq_getElem (show o < _ by rw [putX_size' _ _ _ (by simp <;> omega)]; omega))
 go_simp
 clear hfr hold
 clear q10 q11
 refine hK _ _ ?_
 clear hK K
 change wpList _ _ _ _ a _
 replace hG := hG.set (o) (.int .u8 (v / 16777216))
 replace hg := hg.set_ (o) (.int .u8 (v / 16777216))
 replace hg := put_zero (by omega) hg
 revert hG hg
 generalize World.setCell _ _ _ = w
 intro hG hg
 clear hw
 refine wp_seq ?_
 have hw : IntKind.u8.wrap (v / 65536) = v / 65536 % 256 := (IntKind.wrap_u8' _).trans (by omega)
 refine fl2 [.eq 12 _, .eq 13 _, .eq 14 _, .eq 15 _, .eq 16 _] 5 hs hd zl
  ⟨(stp rfl fun a u hb hs hl hd K hK => by have s0 := gL hl 4; clear hd; go_simp; exact kE hK hs),
   (stp rfl fun a u hb hs hl hd K hK => by have s1 := gL hl 5; clear hd; go_simp; exact kE hK hs),
   (stp rfl fun a u hb hs hl hd K hK => by have s13 := gD hd 1; clear hd; go_simp; exact kE hK hs),
   (stp rfl fun a u hb hs hl hd K hK => by have s14 := gD hd 2; clear hd; go_simp; exact kE hK hs),
   (stp rfl fun a u hb hs hl hd K hK => by have s12 := gD hd 0; clear hd; go_simp; exact kE hK hs),
   trivial⟩ ?_
 clear hs hd zl
 intro a w hb hs hd zl hh
 replace zl := lH hh 3 zl
 replace zl := lH hh 4 zl
 clear hh
 replace hG := hG.after hb
 replace hg := hg.after hb
 clear hb
 show wpList _ _ _ [_] _ _
 refine tail_op rfl (fun K hK => ?_)
 have q15 := gL zl 1
 have q16 := gL zl 0
 have hfr := hg.free (o + 1)
 have hold := (hg.cell (o + 1)).trans (Array.getElem?_eq_getElem (show o + 1 < _ by rw [putX_size' _ _ _ (by simp <;> omega)]; omega))
 go_simp
 clear hfr hold
 clear q15 q16
 refine hK _ _ ?_
 clear hK K
 change wpList _ _ _ _ a _
 replace hG := hG.set (o + 1) (.int .u8 (v / 65536 % 256))
 replace hg := hg.set_ (o + 1) (.int .u8 (v / 65536 % 256))
 rw [show o + 1 = o + ([v / 16777216] : List Int).length from rfl, put_snoc _ _ _ _ (by simp <;> omega)] at hg
 simp only [List.cons_append, List.nil_append] at hg
 revert hG hg
 generalize World.setCell _ _ _ = w
 intro hG hg
 clear hw
 refine wp_seq ?_
 have hw : IntKind.u8.wrap (v / 256) = v / 256 % 256 := (IntKind.wrap_u8' _).trans (by omega)
 refine fl2 [.eq 17 _, .eq 18 _, .eq 19 _, .eq 20 _, .eq 21 _] 5 hs hd zl
  ⟨(stp rfl fun a u hb hs hl hd K hK => by have s0 := gL hl 6; clear hd; go_simp; exact kE hK hs),
   (stp rfl fun a u hb hs hl hd K hK => by have s1 := gL hl 7; clear hd; go_simp; exact kE hK hs),
   (stp rfl fun a u hb hs hl hd K hK => by have s18 := gD hd 1; clear hd; go_simp; exact kE hK hs),
   (stp rfl fun a u hb hs hl hd K hK => by have s19 := gD hd 2; clear hd; go_simp; exact kE hK hs),
   (stp rfl fun a u hb hs hl hd K hK => by have s17 := gD hd 0; clear hd; go_simp; exact kE hK hs),
   trivial⟩ ?_
 clear hs hd zl
 intro a w hb hs hd zl hh
 replace zl := lH hh 3 zl
 replace zl := lH hh 4 zl
 clear hh
 replace hG := hG.after hb
 replace hg := hg.after hb
 clear hb
 show wpList _ _ _ [_] _ _
 refine tail_op rfl (fun K hK => ?_)
 have q20 := gL zl 1
 have q21 := gL zl 0
 have hfr := hg.free (o + 2)
 have hold := (hg.cell (o + 2)).trans (Array.getElem?_eq_getElem (show o + 2 < _ by rw [putX_size' _ _ _ (by simp <;> omega)]; omega))
 go_simp
 clear hfr hold
 clear q20 q21
 refine hK _ _ ?_
 clear hK K
 change wpList _ _ _ _ a _
 replace hG := hG.set (o + 2) (.int .u8 (v / 256 % 256))
 replace hg := hg.set_ (o + 2) (.int .u8 (v / 256 % 256))
 rw [show o + 2 = o + ([v / 16777216, v / 65536 % 256] : List Int).length from rfl, put_snoc _ _ _ _ (by simp <;> omega)] at hg
 simp only [List.cons_append, List.nil_append] at hg
 revert hG hg
 generalize World.setCell _ _ _ = w
 intro hG hg
 clear hw
 have hw : IntKind.u8.wrap (v) = v % 256 := (IntKind.wrap_u8' _).trans (by omega)
 refine fl2 [.eq 22 _, .eq 23 _, .eq 24 _, .eq 25 _] 4 hs hd zl
  ⟨(stp rfl fun a u hb hs hl hd K hK => by have s0 := gL hl 8; clear hd; go_simp; exact kE hK hs),
   (stp rfl fun a u hb hs hl hd K hK => by have s1 := gL hl 9; clear hd; go_simp; exact kE hK hs),
   (stp rfl fun a u hb hs hl hd K hK => by have s23 := gD hd 1; clear hd; go_simp; exact kE hK hs),
   (stp rfl fun a u hb hs hl hd K hK => by have s22 := gD hd 0; clear hd; go_simp; exact kE hK hs),
   trivial⟩ ?_
 clear hs hd zl
 intro a w hb hs hd zl hh
 replace zl := lH hh 2 zl
 replace zl := lH hh 3 zl
 clear hh
 replace hG := hG.after hb
 replace hg := hg.after hb
 clear hb
 show wpList _ _ _ [_] _ _
 refine tail_op rfl (fun K hK => ?_)
 have q24 := gL zl 1
 have q25 := gL zl 0
 have hfr := hg.free (o + 3)
 have hold := (hg.cell (o + 3)).trans (Array.getElem?_eq_getElem (show o + 3 < _ by rw [putX_size' _ _ _ (by simp <;> omega)]; omega))
 go_simp
 clear hfr hold
 clear q24 q25
 refine hK _ _ ?_
 clear hK K
 change wpList _ _ _ _ a _
 replace hG := hG.set (o + 3) (.int .u8 (v % 256))
 replace hg := hg.set_ (o + 3) (.int .u8 (v % 256))
 rw [show o + 3 = o + ([v / 16777216, v / 65536 % 256, v / 256 % 256] : List Int).length from rfl, put_snoc _ _ _ _ (by simp <;> omega)] at hg
 simp only [List.cons_append, List.nil_append] at hg
 revert hG hg
 generalize World.setCell _ _ _ = w
 intro hG hg
 clear hw
 exact end_none rfl hd ⟨rfl, hG, hg⟩
set_option maxHeartbeats 4000000 in
set_option maxRecDepth 100000 in
theorem c_put64 (g o n c : Nat) (t : TypeId) (cs : Array Value) (v : Nat) (w : World) (hg : Blk w g t cs) (hv : v < 18446744073709551616) (hn : 8 ≤ n) (ho : o + 8 ≤ cs.size) (h8 : ∀ i, i < 8 → ∃ x, cs[o + i]? = some (.int .u8 x)) :
  Calls Tryd.prog 82 #[.slice (some ⟨g, o, none⟩) n c, .int .u64 (v : Int)] w fun e w' => e = .returned (.tuple #[]) ∧ w.grownBy w' (some g) ∧ Blk w' g t (putX cs o (be64 v)) := by
 obtain ⟨x7, hx7⟩ := h8 7 (by omega)
 have c7 := (hg.cell (o + 7)).trans hx7
 clear hx7 h8
 refine enter_abs Tryd.func82 rfl 21 rfl (by simp) ?_
 intro a hs hd hargs
 have s0 := hargs 0 _ rfl
 have s1 := hargs 1 _ rfl
 clear hargs
 have hG := GB.refl w g
 rw [show cs = putX cs o [] from (putX_nil cs o).symm] at hg
 have n0 : (0 : Int) < (n : Int) := by omega
 have n1 : (1 : Int) < (n : Int) := by omega
 have n2 : (2 : Int) < (n : Int) := by omega
 have n3 : (3 : Int) < (n : Int) := by omega
 have n4 : (4 : Int) < (n : Int) := by omega
 have n5 : (5 : Int) < (n : Int) := by omega
 have n6 : (6 : Int) < (n : Int) := by omega
 have n7 : (7 : Int) < (n : Int) := by omega
 have m0 : 0 < n := by omega
 refine wp_seq ?_
 refine fl2 (F := [(0, _), (1, _)]) [.eq 5 _, .eq 6 _] 2 hs hd ⟨s0, s1, trivial⟩
  ⟨(stp rfl fun a u hb hs hl hd K hK => by have s0 := gL hl 0; clear hd; go_simp; exact kE hK hs),
   (stp rfl fun a u hb hs hl hd K hK => by have s5 := gD hd 0; clear hd; go_simp; exact kE hK hs),
   trivial⟩ ?_
 clear hs hd s0 s1
 intro a w hb hs hd zl hh
 replace zl := lH hh 1 zl
 clear hh
 replace hG := hG.after hb
 replace hg := hg.after hb
 replace c7 := cell_up hb c7
 clear hb
 show wpList _ _ _ [_] _ _
 refine tail_op rfl (fun K hK => ?_)
 have q6 := gL zl 0
 go_simp
 clear q6
 refine hK _ _ (tP hs hd zl ?_)
 clear hK K hs hd zl
 intro a hs hd zl
 clear c7
 refine wp_seq ?_
 refine wp_region_list ?_
 show wpList _ _ _ [_] _ _
 refine tail_op rfl (fun K hK => ?_)
 go_simp
 refine hK _ _ (tP hs hd zl ?_)
 clear hK K hs hd zl
 intro a hs hd zl
 refine wp_block ?_
 refine wp_loop_rounds 9 ?_
 change Code.wp _ _ (Exit.then (Code.rounds _ _ _ 8) _) _ _
 refine wp_seq ?_
 refine wp_seq ?_
 refine fl2 [.eq 8 _] 1 hs hd zl
  ⟨(stp rfl fun a u hb hs hl hd K hK => by have s4 := gL hl 0; clear hd; go_simp; exact kE hK hs),
   trivial⟩ ?_
 clear hs hd zl
 intro a w hb hs hd zl hh
 replace zl := lH hh 0 zl
 clear hh
 replace hG := hG.after hb
 replace hg := hg.after hb
 clear hb
 show wpList _ _ _ [_] _ _
 refine tail_op rfl (fun K hK => ?_)
 have q8 := gL zl 0
 go_simp
 clear q8
 refine hK _ _ (tP hs hd zl ?_)
 clear hK K hs hd zl
 intro a hs hd zl
 refine wp_cond_true (vL zl 0) ?_
 refine wp_skip ?_
 refine wp_seq ?_
 refine wp_block ?_
 refine fl2 [.eq 12 _, .eq 13 _, .eq 14 _, .eq 15 _, .eq 16 _, .eq 17 _, .eq 18 _, .eq 19 _, .eq 20 _] 9 hs hd zl
  ⟨(stp rfl fun a u hb hs hl hd K hK => by have s0 := gL hl 5; clear hd; go_simp; exact kE hK hs),
   (stp rfl fun a u hb hs hl hd K hK => by have s4 := gL hl 2; clear hd; go_simp; exact kE hK hs),
   (stp rfl fun a u hb hs hl hd K hK => by have s1 := gL hl 6; clear hd; go_simp; exact kE hK hs),
   (stp rfl fun a u hb hs hl hd K hK => by have s4 := gL hl 2; clear hd; go_simp; exact kE hK hs),
   (stp rfl fun a u hb hs hl hd K hK => by have s15 := gD hd 3; clear hd; go_simp; exact kE hK hs),
   (stp rfl fun a u hb hs hl hd K hK => by have s16 := gD hd 4; clear hd; go_simp; exact kE hK hs),
   (stp rfl fun a u hb hs hl hd K hK => by have s14 := gD hd 2; have s17 := gD hd 5; clear hd; go_simp; exact kE hK hs),
   (stp rfl fun a u hb hs hl hd K hK => by have s18 := gD hd 6; clear hd; go_simp; exact kE hK hs),
   (stp rfl fun a u hb hs hl hd K hK => by have s12 := gD hd 0; have s13 := gD hd 1; clear hd; go_simp; exact kE hK hs),
   trivial⟩ ?_
 clear hs hd zl
 intro a w hb hs hd zl hh
 replace zl := lH hh 7 zl
 replace zl := lH hh 8 zl
 clear hh
 replace hG := hG.after hb
 replace hg := hg.after hb
 clear hb
 show wpList _ _ _ [_] _ _
 refine tail_op rfl (fun K hK => ?_)
 have q19 := gL zl 1
 have q20 := gL zl 0
 obtain ⟨s20, s19, -, -, s4, -, -, s0, s1, -⟩ := zl
 replace s19 := s19.trans (congrArg (Value.int IntKind.u8) (sh64 v 56 _ (by kernel_rfl) (by decide)))
 obtain ⟨x, hx⟩ : ∃ x : Int, ((v / 2^56 % 256 : Nat) : Int) = x := ⟨_, rfl⟩
 rw [hx] at s19
 replace q19 := gd s19
 have hfr := hg.free (o)
 have hold := (hg.cell (o)).trans (Array.getElem?_eq_getElem (show o < _ by rw [putX_size' _ _ _ (by simp <;> omega)]; omega))
 go_simp
 clear hfr hold
 clear q19 q20
 refine hK _ _ ?_
 clear hK K
 change wpList _ _ _ _ a _
 replace hG := hG.set (o) (.int .u8 (x))
 replace hg := hg.set_ (o) (.int .u8 (x))
 replace hg := put_zero (by omega) hg
 revert hG hg
 generalize World.setCell _ _ _ = w
 intro hG hg
 subst hx
 clear s19 s20
 refine fl2 (F := [(0, _), (1, _), (4, _)]) [.eq 10 _, .eq 11 _] 2 hs hd ⟨s0, s1, s4, trivial⟩
  ⟨(stp rfl fun a u hb hs hl hd K hK => by have s4 := gL hl 2; clear hd; go_simp; exact kE hK hs),
   (stp rfl fun a u hb hs hl hd K hK => by have s10 := gD hd 0; clear hd; go_simp; exact kE hK hs),
   trivial⟩ ?_
 clear hs hd s0 s1 s4
 intro a w hb hs hd zl hh
 replace zl := lH hh 1 zl
 clear hh
 replace hG := hG.after hb
 replace hg := hg.after hb
 clear hb
 show wpList _ _ _ [_] _ _
 refine tail_op rfl (fun K hK => ?_)
 have q11 := gL zl 0
 go_simp
 clear q11
 refine hK _ _ ?_
 clear hK K
 obtain ⟨s11, s0, s1, s4, -⟩ := zl
 refine act_put (d := 4) _ hs hd (by decide) [(0, _), (1, _), (11, _)] ⟨s0, s1, s11, trivial⟩ rfl ?_
 clear hs hd s0 s1 s4 s11
 intro a hs hd zl
 obtain ⟨s4, s0, s1, s11, -⟩ := zl
 replace s4 := s4.trans (show _ = Value.int IntKind.i64 1 by kernel_rfl)
 clear s11
 change Code.wp _ _ (Exit.then (Code.rounds _ _ _ 7) _) _ _
 refine wp_seq ?_
 refine wp_seq ?_
 refine fl2 (F := [(0, _), (1, _), (4, _)]) [.eq 8 _] 1 hs hd ⟨s0, s1, s4, trivial⟩
  ⟨(stp rfl fun a u hb hs hl hd K hK => by have s4 := gL hl 2; clear hd; go_simp; exact kE hK hs),
   trivial⟩ ?_
 clear hs hd s0 s1 s4
 intro a w hb hs hd zl hh
 replace zl := lH hh 0 zl
 clear hh
 replace hG := hG.after hb
 replace hg := hg.after hb
 clear hb
 show wpList _ _ _ [_] _ _
 refine tail_op rfl (fun K hK => ?_)
 have q8 := gL zl 0
 go_simp
 clear q8
 refine hK _ _ (tP hs hd zl ?_)
 clear hK K hs hd zl
 intro a hs hd zl
 refine wp_cond_true (vL zl 0) ?_
 refine wp_skip ?_
 refine wp_seq ?_
 refine wp_block ?_
 refine fl2 [.eq 12 _, .eq 13 _, .eq 14 _, .eq 15 _, .eq 16 _, .eq 17 _, .eq 18 _, .eq 19 _, .eq 20 _] 9 hs hd zl
  ⟨(stp rfl fun a u hb hs hl hd K hK => by have s0 := gL hl 2; clear hd; go_simp; exact kE hK hs),
   (stp rfl fun a u hb hs hl hd K hK => by have s4 := gL hl 4; clear hd; go_simp; exact kE hK hs),
   (stp rfl fun a u hb hs hl hd K hK => by have s1 := gL hl 3; clear hd; go_simp; exact kE hK hs),
   (stp rfl fun a u hb hs hl hd K hK => by have s4 := gL hl 4; clear hd; go_simp; exact kE hK hs),
   (stp rfl fun a u hb hs hl hd K hK => by have s15 := gD hd 3; clear hd; go_simp; exact kE hK hs),
   (stp rfl fun a u hb hs hl hd K hK => by have s16 := gD hd 4; clear hd; go_simp; exact kE hK hs),
   (stp rfl fun a u hb hs hl hd K hK => by have s14 := gD hd 2; have s17 := gD hd 5; clear hd; go_simp; exact kE hK hs),
   (stp rfl fun a u hb hs hl hd K hK => by have s18 := gD hd 6; clear hd; go_simp; exact kE hK hs),
   (stp rfl fun a u hb hs hl hd K hK => by have s12 := gD hd 0; have s13 := gD hd 1; clear hd; go_simp; exact kE hK hs),
   trivial⟩ ?_
 clear hs hd zl
 intro a w hb hs hd zl hh
 replace zl := lH hh 7 zl
 replace zl := lH hh 8 zl
 clear hh
 replace hG := hG.after hb
 replace hg := hg.after hb
 clear hb
 show wpList _ _ _ [_] _ _
 refine tail_op rfl (fun K hK => ?_)
 have q19 := gL zl 1
 have q20 := gL zl 0
 obtain ⟨s20, s19, -, -, s0, s1, s4, -⟩ := zl
 replace s19 := s19.trans (congrArg (Value.int IntKind.u8) (sh64 v 48 _ (by kernel_rfl) (by decide)))
 obtain ⟨x, hx⟩ : ∃ x : Int, ((v / 2^48 % 256 : Nat) : Int) = x := ⟨_, rfl⟩
 rw [hx] at s19
 replace q19 := gd s19
 have hfr := hg.free (o + 1)
 have hold := (hg.cell (o + 1)).trans (Array.getElem?_eq_getElem (show o + 1 < _ by rw [putX_size' _ _ _ (by simp <;> omega)]; omega))
 go_simp
 clear hfr hold
 clear q19 q20
 refine hK _ _ ?_
 clear hK K
 change wpList _ _ _ _ a _
 replace hG := hG.set (o + 1) (.int .u8 (x))
 replace hg := hg.set_ (o + 1) (.int .u8 (x))
 rw [show o + 1 = o + ([((v / 2^56 % 256 : Nat) : Int)] : List Int).length from rfl, put_snoc _ _ _ _ (by simp <;> omega)] at hg
 simp only [List.cons_append, List.nil_append] at hg
 revert hG hg
 generalize World.setCell _ _ _ = w
 intro hG hg
 subst hx
 clear s19 s20
 refine fl2 (F := [(0, _), (1, _), (4, _)]) [.eq 10 _, .eq 11 _] 2 hs hd ⟨s0, s1, s4, trivial⟩
  ⟨(stp rfl fun a u hb hs hl hd K hK => by have s4 := gL hl 2; clear hd; go_simp; exact kE hK hs),
   (stp rfl fun a u hb hs hl hd K hK => by have s10 := gD hd 0; clear hd; go_simp; exact kE hK hs),
   trivial⟩ ?_
 clear hs hd s0 s1 s4
 intro a w hb hs hd zl hh
 replace zl := lH hh 1 zl
 clear hh
 replace hG := hG.after hb
 replace hg := hg.after hb
 clear hb
 show wpList _ _ _ [_] _ _
 refine tail_op rfl (fun K hK => ?_)
 have q11 := gL zl 0
 go_simp
 clear q11
 refine hK _ _ ?_
 clear hK K
 obtain ⟨s11, s0, s1, s4, -⟩ := zl
 refine act_put (d := 4) _ hs hd (by decide) [(0, _), (1, _), (11, _)] ⟨s0, s1, s11, trivial⟩ rfl ?_
 clear hs hd s0 s1 s4 s11
 intro a hs hd zl
 obtain ⟨s4, s0, s1, s11, -⟩ := zl
 replace s4 := s4.trans (show _ = Value.int IntKind.i64 2 by kernel_rfl)
 clear s11
 change Code.wp _ _ (Exit.then (Code.rounds _ _ _ 6) _) _ _
 refine wp_seq ?_
 refine wp_seq ?_
 refine fl2 (F := [(0, _), (1, _), (4, _)]) [.eq 8 _] 1 hs hd ⟨s0, s1, s4, trivial⟩
  ⟨(stp rfl fun a u hb hs hl hd K hK => by have s4 := gL hl 2; clear hd; go_simp; exact kE hK hs),
   trivial⟩ ?_
 clear hs hd s0 s1 s4
 intro a w hb hs hd zl hh
 replace zl := lH hh 0 zl
 clear hh
 replace hG := hG.after hb
 replace hg := hg.after hb
 clear hb
 show wpList _ _ _ [_] _ _
 refine tail_op rfl (fun K hK => ?_)
 have q8 := gL zl 0
 go_simp
 clear q8
 refine hK _ _ (tP hs hd zl ?_)
 clear hK K hs hd zl
 intro a hs hd zl
 refine wp_cond_true (vL zl 0) ?_
 refine wp_skip ?_
 refine wp_seq ?_
 refine wp_block ?_
 refine fl2 [.eq 12 _, .eq 13 _, .eq 14 _, .eq 15 _, .eq 16 _, .eq 17 _, .eq 18 _, .eq 19 _, .eq 20 _] 9 hs hd zl
  ⟨(stp rfl fun a u hb hs hl hd K hK => by have s0 := gL hl 2; clear hd; go_simp; exact kE hK hs),
   (stp rfl fun a u hb hs hl hd K hK => by have s4 := gL hl 4; clear hd; go_simp; exact kE hK hs),
   (stp rfl fun a u hb hs hl hd K hK => by have s1 := gL hl 3; clear hd; go_simp; exact kE hK hs),
   (stp rfl fun a u hb hs hl hd K hK => by have s4 := gL hl 4; clear hd; go_simp; exact kE hK hs),
   (stp rfl fun a u hb hs hl hd K hK => by have s15 := gD hd 3; clear hd; go_simp; exact kE hK hs),
   (stp rfl fun a u hb hs hl hd K hK => by have s16 := gD hd 4; clear hd; go_simp; exact kE hK hs),
   (stp rfl fun a u hb hs hl hd K hK => by have s14 := gD hd 2; have s17 := gD hd 5; clear hd; go_simp; exact kE hK hs),
   (stp rfl fun a u hb hs hl hd K hK => by have s18 := gD hd 6; clear hd; go_simp; exact kE hK hs),
   (stp rfl fun a u hb hs hl hd K hK => by have s12 := gD hd 0; have s13 := gD hd 1; clear hd; go_simp; exact kE hK hs),
   trivial⟩ ?_
 clear hs hd zl
 intro a w hb hs hd zl hh
 replace zl := lH hh 7 zl
 replace zl := lH hh 8 zl
 clear hh
 replace hG := hG.after hb
 replace hg := hg.after hb
 clear hb
 show wpList _ _ _ [_] _ _
 refine tail_op rfl (fun K hK => ?_)
 have q19 := gL zl 1
 have q20 := gL zl 0
 obtain ⟨s20, s19, -, -, s0, s1, s4, -⟩ := zl
 replace s19 := s19.trans (congrArg (Value.int IntKind.u8) (sh64 v 40 _ (by kernel_rfl) (by decide)))
 obtain ⟨x, hx⟩ : ∃ x : Int, ((v / 2^40 % 256 : Nat) : Int) = x := ⟨_, rfl⟩
 rw [hx] at s19
 replace q19 := gd s19
 have hfr := hg.free (o + 2)
 have hold := (hg.cell (o + 2)).trans (Array.getElem?_eq_getElem (show o + 2 < _ by rw [putX_size' _ _ _ (by simp <;> omega)]; omega))
 go_simp
 clear hfr hold
 clear q19 q20
 refine hK _ _ ?_
 clear hK K
 change wpList _ _ _ _ a _
 replace hG := hG.set (o + 2) (.int .u8 (x))
 replace hg := hg.set_ (o + 2) (.int .u8 (x))
 rw [show o + 2 = o + ([((v / 2^56 % 256 : Nat) : Int), ((v / 2^48 % 256 : Nat) : Int)] : List Int).length from rfl, put_snoc _ _ _ _ (by simp <;> omega)] at hg
 simp only [List.cons_append, List.nil_append] at hg
 revert hG hg
 generalize World.setCell _ _ _ = w
 intro hG hg
 subst hx
 clear s19 s20
 refine fl2 (F := [(0, _), (1, _), (4, _)]) [.eq 10 _, .eq 11 _] 2 hs hd ⟨s0, s1, s4, trivial⟩
  ⟨(stp rfl fun a u hb hs hl hd K hK => by have s4 := gL hl 2; clear hd; go_simp; exact kE hK hs),
   (stp rfl fun a u hb hs hl hd K hK => by have s10 := gD hd 0; clear hd; go_simp; exact kE hK hs),
   trivial⟩ ?_
 clear hs hd s0 s1 s4
 intro a w hb hs hd zl hh
 replace zl := lH hh 1 zl
 clear hh
 replace hG := hG.after hb
 replace hg := hg.after hb
 clear hb
 show wpList _ _ _ [_] _ _
 refine tail_op rfl (fun K hK => ?_)
 have q11 := gL zl 0
 go_simp
 clear q11
 refine hK _ _ ?_
 clear hK K
 obtain ⟨s11, s0, s1, s4, -⟩ := zl
 refine act_put (d := 4) _ hs hd (by decide) [(0, _), (1, _), (11, _)] ⟨s0, s1, s11, trivial⟩ rfl ?_
 clear hs hd s0 s1 s4 s11
 intro a hs hd zl
 obtain ⟨s4, s0, s1, s11, -⟩ := zl
 replace s4 := s4.trans (show _ = Value.int IntKind.i64 3 by kernel_rfl)
 clear s11
 change Code.wp _ _ (Exit.then (Code.rounds _ _ _ 5) _) _ _
 refine wp_seq ?_
 refine wp_seq ?_
 refine fl2 (F := [(0, _), (1, _), (4, _)]) [.eq 8 _] 1 hs hd ⟨s0, s1, s4, trivial⟩
  ⟨(stp rfl fun a u hb hs hl hd K hK => by have s4 := gL hl 2; clear hd; go_simp; exact kE hK hs),
   trivial⟩ ?_
 clear hs hd s0 s1 s4
 intro a w hb hs hd zl hh
 replace zl := lH hh 0 zl
 clear hh
 replace hG := hG.after hb
 replace hg := hg.after hb
 clear hb
 show wpList _ _ _ [_] _ _
 refine tail_op rfl (fun K hK => ?_)
 have q8 := gL zl 0
 go_simp
 clear q8
 refine hK _ _ (tP hs hd zl ?_)
 clear hK K hs hd zl
 intro a hs hd zl
 refine wp_cond_true (vL zl 0) ?_
 refine wp_skip ?_
 refine wp_seq ?_
 refine wp_block ?_
 refine fl2 [.eq 12 _, .eq 13 _, .eq 14 _, .eq 15 _, .eq 16 _, .eq 17 _, .eq 18 _, .eq 19 _, .eq 20 _] 9 hs hd zl
  ⟨(stp rfl fun a u hb hs hl hd K hK => by have s0 := gL hl 2; clear hd; go_simp; exact kE hK hs),
   (stp rfl fun a u hb hs hl hd K hK => by have s4 := gL hl 4; clear hd; go_simp; exact kE hK hs),
   (stp rfl fun a u hb hs hl hd K hK => by have s1 := gL hl 3; clear hd; go_simp; exact kE hK hs),
   (stp rfl fun a u hb hs hl hd K hK => by have s4 := gL hl 4; clear hd; go_simp; exact kE hK hs),
   (stp rfl fun a u hb hs hl hd K hK => by have s15 := gD hd 3; clear hd; go_simp; exact kE hK hs),
   (stp rfl fun a u hb hs hl hd K hK => by have s16 := gD hd 4; clear hd; go_simp; exact kE hK hs),
   (stp rfl fun a u hb hs hl hd K hK => by have s14 := gD hd 2; have s17 := gD hd 5; clear hd; go_simp; exact kE hK hs),
   (stp rfl fun a u hb hs hl hd K hK => by have s18 := gD hd 6; clear hd; go_simp; exact kE hK hs),
   (stp rfl fun a u hb hs hl hd K hK => by have s12 := gD hd 0; have s13 := gD hd 1; clear hd; go_simp; exact kE hK hs),
   trivial⟩ ?_
 clear hs hd zl
 intro a w hb hs hd zl hh
 replace zl := lH hh 7 zl
 replace zl := lH hh 8 zl
 clear hh
 replace hG := hG.after hb
 replace hg := hg.after hb
 clear hb
 show wpList _ _ _ [_] _ _
 refine tail_op rfl (fun K hK => ?_)
 have q19 := gL zl 1
 have q20 := gL zl 0
 obtain ⟨s20, s19, -, -, s0, s1, s4, -⟩ := zl
 replace s19 := s19.trans (congrArg (Value.int IntKind.u8) (sh64 v 32 _ (by kernel_rfl) (by decide)))
 obtain ⟨x, hx⟩ : ∃ x : Int, ((v / 2^32 % 256 : Nat) : Int) = x := ⟨_, rfl⟩
 rw [hx] at s19
 replace q19 := gd s19
 have hfr := hg.free (o + 3)
 have hold := (hg.cell (o + 3)).trans (Array.getElem?_eq_getElem (show o + 3 < _ by rw [putX_size' _ _ _ (by simp <;> omega)]; omega))
 go_simp
 clear hfr hold
 clear q19 q20
 refine hK _ _ ?_
 clear hK K
 change wpList _ _ _ _ a _
 replace hG := hG.set (o + 3) (.int .u8 (x))
 replace hg := hg.set_ (o + 3) (.int .u8 (x))
 rw [show o + 3 = o + ([((v / 2^56 % 256 : Nat) : Int), ((v / 2^48 % 256 : Nat) : Int), ((v / 2^40 % 256 : Nat) : Int)] : List Int).length from rfl, put_snoc _ _ _ _ (by simp <;> omega)] at hg
 simp only [List.cons_append, List.nil_append] at hg
 revert hG hg
 generalize World.setCell _ _ _ = w
 intro hG hg
 subst hx
 clear s19 s20
 refine fl2 (F := [(0, _), (1, _), (4, _)]) [.eq 10 _, .eq 11 _] 2 hs hd ⟨s0, s1, s4, trivial⟩
  ⟨(stp rfl fun a u hb hs hl hd K hK => by have s4 := gL hl 2; clear hd; go_simp; exact kE hK hs),
   (stp rfl fun a u hb hs hl hd K hK => by have s10 := gD hd 0; clear hd; go_simp; exact kE hK hs),
   trivial⟩ ?_
 clear hs hd s0 s1 s4
 intro a w hb hs hd zl hh
 replace zl := lH hh 1 zl
 clear hh
 replace hG := hG.after hb
 replace hg := hg.after hb
 clear hb
 show wpList _ _ _ [_] _ _
 refine tail_op rfl (fun K hK => ?_)
 have q11 := gL zl 0
 go_simp
 clear q11
 refine hK _ _ ?_
 clear hK K
 obtain ⟨s11, s0, s1, s4, -⟩ := zl
 refine act_put (d := 4) _ hs hd (by decide) [(0, _), (1, _), (11, _)] ⟨s0, s1, s11, trivial⟩ rfl ?_
 clear hs hd s0 s1 s4 s11
 intro a hs hd zl
 obtain ⟨s4, s0, s1, s11, -⟩ := zl
 replace s4 := s4.trans (show _ = Value.int IntKind.i64 4 by kernel_rfl)
 clear s11
 change Code.wp _ _ (Exit.then (Code.rounds _ _ _ 4) _) _ _
 refine wp_seq ?_
 refine wp_seq ?_
 refine fl2 (F := [(0, _), (1, _), (4, _)]) [.eq 8 _] 1 hs hd ⟨s0, s1, s4, trivial⟩
  ⟨(stp rfl fun a u hb hs hl hd K hK => by have s4 := gL hl 2; clear hd; go_simp; exact kE hK hs),
   trivial⟩ ?_
 clear hs hd s0 s1 s4
 intro a w hb hs hd zl hh
 replace zl := lH hh 0 zl
 clear hh
 replace hG := hG.after hb
 replace hg := hg.after hb
 clear hb
 show wpList _ _ _ [_] _ _
 refine tail_op rfl (fun K hK => ?_)
 have q8 := gL zl 0
 go_simp
 clear q8
 refine hK _ _ (tP hs hd zl ?_)
 clear hK K hs hd zl
 intro a hs hd zl
 refine wp_cond_true (vL zl 0) ?_
 refine wp_skip ?_
 refine wp_seq ?_
 refine wp_block ?_
 refine fl2 [.eq 12 _, .eq 13 _, .eq 14 _, .eq 15 _, .eq 16 _, .eq 17 _, .eq 18 _, .eq 19 _, .eq 20 _] 9 hs hd zl
  ⟨(stp rfl fun a u hb hs hl hd K hK => by have s0 := gL hl 2; clear hd; go_simp; exact kE hK hs),
   (stp rfl fun a u hb hs hl hd K hK => by have s4 := gL hl 4; clear hd; go_simp; exact kE hK hs),
   (stp rfl fun a u hb hs hl hd K hK => by have s1 := gL hl 3; clear hd; go_simp; exact kE hK hs),
   (stp rfl fun a u hb hs hl hd K hK => by have s4 := gL hl 4; clear hd; go_simp; exact kE hK hs),
   (stp rfl fun a u hb hs hl hd K hK => by have s15 := gD hd 3; clear hd; go_simp; exact kE hK hs),
   (stp rfl fun a u hb hs hl hd K hK => by have s16 := gD hd 4; clear hd; go_simp; exact kE hK hs),
   (stp rfl fun a u hb hs hl hd K hK => by have s14 := gD hd 2; have s17 := gD hd 5; clear hd; go_simp; exact kE hK hs),
   (stp rfl fun a u hb hs hl hd K hK => by have s18 := gD hd 6; clear hd; go_simp; exact kE hK hs),
   (stp rfl fun a u hb hs hl hd K hK => by have s12 := gD hd 0; have s13 := gD hd 1; clear hd; go_simp; exact kE hK hs),
   trivial⟩ ?_
 clear hs hd zl
 intro a w hb hs hd zl hh
 replace zl := lH hh 7 zl
 replace zl := lH hh 8 zl
 clear hh
 replace hG := hG.after hb
 replace hg := hg.after hb
 clear hb
 show wpList _ _ _ [_] _ _
 refine tail_op rfl (fun K hK => ?_)
 have q19 := gL zl 1
 have q20 := gL zl 0
 obtain ⟨s20, s19, -, -, s0, s1, s4, -⟩ := zl
 replace s19 := s19.trans (congrArg (Value.int IntKind.u8) (sh64 v 24 _ (by kernel_rfl) (by decide)))
 obtain ⟨x, hx⟩ : ∃ x : Int, ((v / 2^24 % 256 : Nat) : Int) = x := ⟨_, rfl⟩
 rw [hx] at s19
 replace q19 := gd s19
 have hfr := hg.free (o + 4)
 have hold := (hg.cell (o + 4)).trans (Array.getElem?_eq_getElem (show o + 4 < _ by rw [putX_size' _ _ _ (by simp <;> omega)]; omega))
 go_simp
 clear hfr hold
 clear q19 q20
 refine hK _ _ ?_
 clear hK K
 change wpList _ _ _ _ a _
 replace hG := hG.set (o + 4) (.int .u8 (x))
 replace hg := hg.set_ (o + 4) (.int .u8 (x))
 rw [show o + 4 = o + ([((v / 2^56 % 256 : Nat) : Int), ((v / 2^48 % 256 : Nat) : Int), ((v / 2^40 % 256 : Nat) : Int), ((v / 2^32 % 256 : Nat) : Int)] : List Int).length from rfl, put_snoc _ _ _ _ (by simp <;> omega)] at hg
 simp only [List.cons_append, List.nil_append] at hg
 revert hG hg
 generalize World.setCell _ _ _ = w
 intro hG hg
 subst hx
 clear s19 s20
 refine fl2 (F := [(0, _), (1, _), (4, _)]) [.eq 10 _, .eq 11 _] 2 hs hd ⟨s0, s1, s4, trivial⟩
  ⟨(stp rfl fun a u hb hs hl hd K hK => by have s4 := gL hl 2; clear hd; go_simp; exact kE hK hs),
   (stp rfl fun a u hb hs hl hd K hK => by have s10 := gD hd 0; clear hd; go_simp; exact kE hK hs),
   trivial⟩ ?_
 clear hs hd s0 s1 s4
 intro a w hb hs hd zl hh
 replace zl := lH hh 1 zl
 clear hh
 replace hG := hG.after hb
 replace hg := hg.after hb
 clear hb
 show wpList _ _ _ [_] _ _
 refine tail_op rfl (fun K hK => ?_)
 have q11 := gL zl 0
 go_simp
 clear q11
 refine hK _ _ ?_
 clear hK K
 obtain ⟨s11, s0, s1, s4, -⟩ := zl
 refine act_put (d := 4) _ hs hd (by decide) [(0, _), (1, _), (11, _)] ⟨s0, s1, s11, trivial⟩ rfl ?_
 clear hs hd s0 s1 s4 s11
 intro a hs hd zl
 obtain ⟨s4, s0, s1, s11, -⟩ := zl
 replace s4 := s4.trans (show _ = Value.int IntKind.i64 5 by kernel_rfl)
 clear s11
 change Code.wp _ _ (Exit.then (Code.rounds _ _ _ 3) _) _ _
 refine wp_seq ?_
 refine wp_seq ?_
 refine fl2 (F := [(0, _), (1, _), (4, _)]) [.eq 8 _] 1 hs hd ⟨s0, s1, s4, trivial⟩
  ⟨(stp rfl fun a u hb hs hl hd K hK => by have s4 := gL hl 2; clear hd; go_simp; exact kE hK hs),
   trivial⟩ ?_
 clear hs hd s0 s1 s4
 intro a w hb hs hd zl hh
 replace zl := lH hh 0 zl
 clear hh
 replace hG := hG.after hb
 replace hg := hg.after hb
 clear hb
 show wpList _ _ _ [_] _ _
 refine tail_op rfl (fun K hK => ?_)
 have q8 := gL zl 0
 go_simp
 clear q8
 refine hK _ _ (tP hs hd zl ?_)
 clear hK K hs hd zl
 intro a hs hd zl
 refine wp_cond_true (vL zl 0) ?_
 refine wp_skip ?_
 refine wp_seq ?_
 refine wp_block ?_
 refine fl2 [.eq 12 _, .eq 13 _, .eq 14 _, .eq 15 _, .eq 16 _, .eq 17 _, .eq 18 _, .eq 19 _, .eq 20 _] 9 hs hd zl
  ⟨(stp rfl fun a u hb hs hl hd K hK => by have s0 := gL hl 2; clear hd; go_simp; exact kE hK hs),
   (stp rfl fun a u hb hs hl hd K hK => by have s4 := gL hl 4; clear hd; go_simp; exact kE hK hs),
   (stp rfl fun a u hb hs hl hd K hK => by have s1 := gL hl 3; clear hd; go_simp; exact kE hK hs),
   (stp rfl fun a u hb hs hl hd K hK => by have s4 := gL hl 4; clear hd; go_simp; exact kE hK hs),
   (stp rfl fun a u hb hs hl hd K hK => by have s15 := gD hd 3; clear hd; go_simp; exact kE hK hs),
   (stp rfl fun a u hb hs hl hd K hK => by have s16 := gD hd 4; clear hd; go_simp; exact kE hK hs),
   (stp rfl fun a u hb hs hl hd K hK => by have s14 := gD hd 2; have s17 := gD hd 5; clear hd; go_simp; exact kE hK hs),
   (stp rfl fun a u hb hs hl hd K hK => by have s18 := gD hd 6; clear hd; go_simp; exact kE hK hs),
   (stp rfl fun a u hb hs hl hd K hK => by have s12 := gD hd 0; have s13 := gD hd 1; clear hd; go_simp; exact kE hK hs),
   trivial⟩ ?_
 clear hs hd zl
 intro a w hb hs hd zl hh
 replace zl := lH hh 7 zl
 replace zl := lH hh 8 zl
 clear hh
 replace hG := hG.after hb
 replace hg := hg.after hb
 clear hb
 show wpList _ _ _ [_] _ _
 refine tail_op rfl (fun K hK => ?_)
 have q19 := gL zl 1
 have q20 := gL zl 0
 obtain ⟨s20, s19, -, -, s0, s1, s4, -⟩ := zl
 replace s19 := s19.trans (congrArg (Value.int IntKind.u8) (sh64 v 16 _ (by kernel_rfl) (by decide)))
 obtain ⟨x, hx⟩ : ∃ x : Int, ((v / 2^16 % 256 : Nat) : Int) = x := ⟨_, rfl⟩
 rw [hx] at s19
 replace q19 := gd s19
 have hfr := hg.free (o + 5)
 have hold := (hg.cell (o + 5)).trans (Array.getElem?_eq_getElem (show o + 5 < _ by rw [putX_size' _ _ _ (by simp <;> omega)]; omega))
 go_simp
 clear hfr hold
 clear q19 q20
 refine hK _ _ ?_
 clear hK K
 change wpList _ _ _ _ a _
 replace hG := hG.set (o + 5) (.int .u8 (x))
 replace hg := hg.set_ (o + 5) (.int .u8 (x))
 rw [show o + 5 = o + ([((v / 2^56 % 256 : Nat) : Int), ((v / 2^48 % 256 : Nat) : Int), ((v / 2^40 % 256 : Nat) : Int), ((v / 2^32 % 256 : Nat) : Int), ((v / 2^24 % 256 : Nat) : Int)] : List Int).length from rfl, put_snoc _ _ _ _ (by simp <;> omega)] at hg
 simp only [List.cons_append, List.nil_append] at hg
 revert hG hg
 generalize World.setCell _ _ _ = w
 intro hG hg
 subst hx
 clear s19 s20
 refine fl2 (F := [(0, _), (1, _), (4, _)]) [.eq 10 _, .eq 11 _] 2 hs hd ⟨s0, s1, s4, trivial⟩
  ⟨(stp rfl fun a u hb hs hl hd K hK => by have s4 := gL hl 2; clear hd; go_simp; exact kE hK hs),
   (stp rfl fun a u hb hs hl hd K hK => by have s10 := gD hd 0; clear hd; go_simp; exact kE hK hs),
   trivial⟩ ?_
 clear hs hd s0 s1 s4
 intro a w hb hs hd zl hh
 replace zl := lH hh 1 zl
 clear hh
 replace hG := hG.after hb
 replace hg := hg.after hb
 clear hb
 show wpList _ _ _ [_] _ _
 refine tail_op rfl (fun K hK => ?_)
 have q11 := gL zl 0
 go_simp
 clear q11
 refine hK _ _ ?_
 clear hK K
 obtain ⟨s11, s0, s1, s4, -⟩ := zl
 refine act_put (d := 4) _ hs hd (by decide) [(0, _), (1, _), (11, _)] ⟨s0, s1, s11, trivial⟩ rfl ?_
 clear hs hd s0 s1 s4 s11
 intro a hs hd zl
 obtain ⟨s4, s0, s1, s11, -⟩ := zl
 replace s4 := s4.trans (show _ = Value.int IntKind.i64 6 by kernel_rfl)
 clear s11
 change Code.wp _ _ (Exit.then (Code.rounds _ _ _ 2) _) _ _
 refine wp_seq ?_
 refine wp_seq ?_
 refine fl2 (F := [(0, _), (1, _), (4, _)]) [.eq 8 _] 1 hs hd ⟨s0, s1, s4, trivial⟩
  ⟨(stp rfl fun a u hb hs hl hd K hK => by have s4 := gL hl 2; clear hd; go_simp; exact kE hK hs),
   trivial⟩ ?_
 clear hs hd s0 s1 s4
 intro a w hb hs hd zl hh
 replace zl := lH hh 0 zl
 clear hh
 replace hG := hG.after hb
 replace hg := hg.after hb
 clear hb
 show wpList _ _ _ [_] _ _
 refine tail_op rfl (fun K hK => ?_)
 have q8 := gL zl 0
 go_simp
 clear q8
 refine hK _ _ (tP hs hd zl ?_)
 clear hK K hs hd zl
 intro a hs hd zl
 refine wp_cond_true (vL zl 0) ?_
 refine wp_skip ?_
 refine wp_seq ?_
 refine wp_block ?_
 refine fl2 [.eq 12 _, .eq 13 _, .eq 14 _, .eq 15 _, .eq 16 _, .eq 17 _, .eq 18 _, .eq 19 _, .eq 20 _] 9 hs hd zl
  ⟨(stp rfl fun a u hb hs hl hd K hK => by have s0 := gL hl 2; clear hd; go_simp; exact kE hK hs),
   (stp rfl fun a u hb hs hl hd K hK => by have s4 := gL hl 4; clear hd; go_simp; exact kE hK hs),
   (stp rfl fun a u hb hs hl hd K hK => by have s1 := gL hl 3; clear hd; go_simp; exact kE hK hs),
   (stp rfl fun a u hb hs hl hd K hK => by have s4 := gL hl 4; clear hd; go_simp; exact kE hK hs),
   (stp rfl fun a u hb hs hl hd K hK => by have s15 := gD hd 3; clear hd; go_simp; exact kE hK hs),
   (stp rfl fun a u hb hs hl hd K hK => by have s16 := gD hd 4; clear hd; go_simp; exact kE hK hs),
   (stp rfl fun a u hb hs hl hd K hK => by have s14 := gD hd 2; have s17 := gD hd 5; clear hd; go_simp; exact kE hK hs),
   (stp rfl fun a u hb hs hl hd K hK => by have s18 := gD hd 6; clear hd; go_simp; exact kE hK hs),
   (stp rfl fun a u hb hs hl hd K hK => by have s12 := gD hd 0; have s13 := gD hd 1; clear hd; go_simp; exact kE hK hs),
   trivial⟩ ?_
 clear hs hd zl
 intro a w hb hs hd zl hh
 replace zl := lH hh 7 zl
 replace zl := lH hh 8 zl
 clear hh
 replace hG := hG.after hb
 replace hg := hg.after hb
 clear hb
 show wpList _ _ _ [_] _ _
 refine tail_op rfl (fun K hK => ?_)
 have q19 := gL zl 1
 have q20 := gL zl 0
 obtain ⟨s20, s19, -, -, s0, s1, s4, -⟩ := zl
 replace s19 := s19.trans (congrArg (Value.int IntKind.u8) (sh64 v 8 _ (by kernel_rfl) (by decide)))
 obtain ⟨x, hx⟩ : ∃ x : Int, ((v / 2^8 % 256 : Nat) : Int) = x := ⟨_, rfl⟩
 rw [hx] at s19
 replace q19 := gd s19
 have hfr := hg.free (o + 6)
 have hold := (hg.cell (o + 6)).trans (Array.getElem?_eq_getElem (show o + 6 < _ by rw [putX_size' _ _ _ (by simp <;> omega)]; omega))
 go_simp
 clear hfr hold
 clear q19 q20
 refine hK _ _ ?_
 clear hK K
 change wpList _ _ _ _ a _
 replace hG := hG.set (o + 6) (.int .u8 (x))
 replace hg := hg.set_ (o + 6) (.int .u8 (x))
 rw [show o + 6 = o + ([((v / 2^56 % 256 : Nat) : Int), ((v / 2^48 % 256 : Nat) : Int), ((v / 2^40 % 256 : Nat) : Int), ((v / 2^32 % 256 : Nat) : Int), ((v / 2^24 % 256 : Nat) : Int), ((v / 2^16 % 256 : Nat) : Int)] : List Int).length from rfl, put_snoc _ _ _ _ (by simp <;> omega)] at hg
 simp only [List.cons_append, List.nil_append] at hg
 revert hG hg
 generalize World.setCell _ _ _ = w
 intro hG hg
 subst hx
 clear s19 s20
 refine fl2 (F := [(0, _), (1, _), (4, _)]) [.eq 10 _, .eq 11 _] 2 hs hd ⟨s0, s1, s4, trivial⟩
  ⟨(stp rfl fun a u hb hs hl hd K hK => by have s4 := gL hl 2; clear hd; go_simp; exact kE hK hs),
   (stp rfl fun a u hb hs hl hd K hK => by have s10 := gD hd 0; clear hd; go_simp; exact kE hK hs),
   trivial⟩ ?_
 clear hs hd s0 s1 s4
 intro a w hb hs hd zl hh
 replace zl := lH hh 1 zl
 clear hh
 replace hG := hG.after hb
 replace hg := hg.after hb
 clear hb
 show wpList _ _ _ [_] _ _
 refine tail_op rfl (fun K hK => ?_)
 have q11 := gL zl 0
 go_simp
 clear q11
 refine hK _ _ ?_
 clear hK K
 obtain ⟨s11, s0, s1, s4, -⟩ := zl
 refine act_put (d := 4) _ hs hd (by decide) [(0, _), (1, _), (11, _)] ⟨s0, s1, s11, trivial⟩ rfl ?_
 clear hs hd s0 s1 s4 s11
 intro a hs hd zl
 obtain ⟨s4, s0, s1, s11, -⟩ := zl
 replace s4 := s4.trans (show _ = Value.int IntKind.i64 7 by kernel_rfl)
 clear s11
 change Code.wp _ _ (Exit.then (Code.rounds _ _ _ 1) _) _ _
 refine wp_seq ?_
 refine wp_seq ?_
 refine fl2 (F := [(0, _), (1, _), (4, _)]) [.eq 8 _] 1 hs hd ⟨s0, s1, s4, trivial⟩
  ⟨(stp rfl fun a u hb hs hl hd K hK => by have s4 := gL hl 2; clear hd; go_simp; exact kE hK hs),
   trivial⟩ ?_
 clear hs hd s0 s1 s4
 intro a w hb hs hd zl hh
 replace zl := lH hh 0 zl
 clear hh
 replace hG := hG.after hb
 replace hg := hg.after hb
 clear hb
 show wpList _ _ _ [_] _ _
 refine tail_op rfl (fun K hK => ?_)
 have q8 := gL zl 0
 go_simp
 clear q8
 refine hK _ _ (tP hs hd zl ?_)
 clear hK K hs hd zl
 intro a hs hd zl
 refine wp_cond_true (vL zl 0) ?_
 refine wp_skip ?_
 refine wp_seq ?_
 refine wp_block ?_
 refine fl2 [.eq 12 _, .eq 13 _, .eq 14 _, .eq 15 _, .eq 16 _, .eq 17 _, .eq 18 _, .eq 19 _, .eq 20 _] 9 hs hd zl
  ⟨(stp rfl fun a u hb hs hl hd K hK => by have s0 := gL hl 2; clear hd; go_simp; exact kE hK hs),
   (stp rfl fun a u hb hs hl hd K hK => by have s4 := gL hl 4; clear hd; go_simp; exact kE hK hs),
   (stp rfl fun a u hb hs hl hd K hK => by have s1 := gL hl 3; clear hd; go_simp; exact kE hK hs),
   (stp rfl fun a u hb hs hl hd K hK => by have s4 := gL hl 4; clear hd; go_simp; exact kE hK hs),
   (stp rfl fun a u hb hs hl hd K hK => by have s15 := gD hd 3; clear hd; go_simp; exact kE hK hs),
   (stp rfl fun a u hb hs hl hd K hK => by have s16 := gD hd 4; clear hd; go_simp; exact kE hK hs),
   (stp rfl fun a u hb hs hl hd K hK => by have s14 := gD hd 2; have s17 := gD hd 5; clear hd; go_simp; exact kE hK hs),
   (stp rfl fun a u hb hs hl hd K hK => by have s18 := gD hd 6; clear hd; go_simp; exact kE hK hs),
   (stp rfl fun a u hb hs hl hd K hK => by have s12 := gD hd 0; have s13 := gD hd 1; clear hd; go_simp; exact kE hK hs),
   trivial⟩ ?_
 clear hs hd zl
 intro a w hb hs hd zl hh
 replace zl := lH hh 7 zl
 replace zl := lH hh 8 zl
 clear hh
 replace hG := hG.after hb
 replace hg := hg.after hb
 clear hb
 show wpList _ _ _ [_] _ _
 refine tail_op rfl (fun K hK => ?_)
 have q19 := gL zl 1
 have q20 := gL zl 0
 obtain ⟨s20, s19, -, -, s0, s1, s4, -⟩ := zl
 replace s19 := s19.trans (congrArg (Value.int IntKind.u8) (sh64 v 0 _ (by kernel_rfl) (by decide)))
 rw [Nat.pow_zero, Nat.div_one] at s19
 obtain ⟨x, hx⟩ : ∃ x : Int, ((v % 256 : Nat) : Int) = x := ⟨_, rfl⟩
 rw [hx] at s19
 replace q19 := gd s19
 have hfr := hg.free (o + 7)
 have hold := (hg.cell (o + 7)).trans (Array.getElem?_eq_getElem (show o + 7 < _ by rw [putX_size' _ _ _ (by simp <;> omega)]; omega))
 go_simp
 clear hfr hold
 clear q19 q20
 refine hK _ _ ?_
 clear hK K
 change wpList _ _ _ _ a _
 replace hG := hG.set (o + 7) (.int .u8 (x))
 replace hg := hg.set_ (o + 7) (.int .u8 (x))
 rw [show o + 7 = o + ([((v / 2^56 % 256 : Nat) : Int), ((v / 2^48 % 256 : Nat) : Int), ((v / 2^40 % 256 : Nat) : Int), ((v / 2^32 % 256 : Nat) : Int), ((v / 2^24 % 256 : Nat) : Int), ((v / 2^16 % 256 : Nat) : Int), ((v / 2^8 % 256 : Nat) : Int)] : List Int).length from rfl, put_snoc _ _ _ _ (by simp <;> omega)] at hg
 simp only [List.cons_append, List.nil_append] at hg
 revert hG hg
 generalize World.setCell _ _ _ = w
 intro hG hg
 subst hx
 clear s19 s20
 refine fl2 (F := [(0, _), (1, _), (4, _)]) [.eq 10 _, .eq 11 _] 2 hs hd ⟨s0, s1, s4, trivial⟩
  ⟨(stp rfl fun a u hb hs hl hd K hK => by have s4 := gL hl 2; clear hd; go_simp; exact kE hK hs),
   (stp rfl fun a u hb hs hl hd K hK => by have s10 := gD hd 0; clear hd; go_simp; exact kE hK hs),
   trivial⟩ ?_
 clear hs hd s0 s1 s4
 intro a w hb hs hd zl hh
 replace zl := lH hh 1 zl
 clear hh
 replace hG := hG.after hb
 replace hg := hg.after hb
 clear hb
 show wpList _ _ _ [_] _ _
 refine tail_op rfl (fun K hK => ?_)
 have q11 := gL zl 0
 go_simp
 clear q11
 refine hK _ _ ?_
 clear hK K
 obtain ⟨s11, s0, s1, s4, -⟩ := zl
 refine act_put (d := 4) _ hs hd (by decide) [(0, _), (1, _), (11, _)] ⟨s0, s1, s11, trivial⟩ rfl ?_
 clear hs hd s0 s1 s4 s11
 intro a hs hd zl
 obtain ⟨s4, s0, s1, s11, -⟩ := zl
 replace s4 := s4.trans (show _ = Value.int IntKind.i64 8 by kernel_rfl)
 clear s11
 change Code.wp _ _ (Exit.then (Code.rounds _ _ _ 0) _) _ _
 refine wp_seq ?_
 refine wp_seq ?_
 refine fl2 (F := [(0, _), (1, _), (4, _)]) [.eq 8 _] 1 hs hd ⟨s0, s1, s4, trivial⟩
  ⟨(stp rfl fun a u hb hs hl hd K hK => by have s4 := gL hl 2; clear hd; go_simp; exact kE hK hs),
   trivial⟩ ?_
 clear hs hd s0 s1 s4
 intro a w hb hs hd zl hh
 replace zl := lH hh 0 zl
 clear hh
 replace hG := hG.after hb
 replace hg := hg.after hb
 clear hb
 show wpList _ _ _ [_] _ _
 refine tail_op rfl (fun K hK => ?_)
 have q8 := gL zl 0
 go_simp
 clear q8
 refine hK _ _ (tP hs hd zl ?_)
 clear hK K hs hd zl
 intro a hs hd zl
 refine wp_cond_false (vL zl 0) ?_
 refine wp_exit ?_
 repeat refine then_exit ?_
 refine inBlock_exit ?_
 exact end_none rfl hd ⟨rfl, hG, hg⟩
end Go.Proofs.YtcmllcmcbamlbaaDoor
namespace Go.Proofs.YtcmllcmcbamlbaaDoor
open Go.RowKit

/-! ### Blocks that are new may be written -/
theorem GB.via {w0 w w1 : World} {g T : Nat} (h : GB w0 w g) (k : GB w w1 T) (hT : w0.heap.size ≤ T) : GB w0 w1 g :=
 ⟨k.os.trans h.os, k.tape.trans h.tape, k.output.trans h.output, Nat.le_trans h.size k.size,
  fun b hb hn => (k.block b (Nat.lt_of_lt_of_le hb h.size) (fun e => by injection e; omega)).trans (h.block b hb hn)⟩
theorem GB.setv {w0 w : World} {g T : Nat} (h : GB w0 w g) (hT : w0.heap.size ≤ T) (o : Nat) (u : Value) : GB w0 (w.setCell ⟨T, o, none⟩ u) g := h.via ((GB.refl w T).set o u) hT
theorem Blk.gbfar {w w1 : World} {g T : Nat} {t : TypeId} {cs : Array Value} (h : Blk w g t cs) (k : GB w w1 T) (hn : T ≠ g) : Blk w1 g t cs := (k.block g h.lt (fun e => hn (by injection e with e; exact e.symm))).trans h
theorem Dst.gbfar {w w1 : World} {g T : Nat} {m : List Int} (h : Dst w g m) (k : GB w w1 T) (hn : T ≠ g) : Dst w1 g m := by
 obtain ⟨x, h1, h2, h3⟩ := h
 exact ⟨x, h1, h2.gbfar k hn, h3⟩
theorem gb1 (w : World) (T o : Nat) (u : Value) : GB w (w.setCell ⟨T, o, none⟩ u) T := (GB.refl w T).set o u

/-! ### Zeros -/
def zs (n : Nat) : Array Value := (List.replicate n (Value.int .u8 0)).toArray
theorem zs_size (n : Nat) : (zs n).size = n := by simp [zs]
theorem zs_get {n i : Nat} (h : i < n) : (zs n)[i]? = some (.int .u8 0) := by simp [zs, h]
theorem putX_hi (x : Array Value) (off : Nat) (l : List Int) (h : off + l.length ≤ x.size) (j : Nat) (hj : off + l.length ≤ j) : (putX x off l)[j]? = x[j]? := by
 unfold putX
 have h1 : (x.toList.take off ++ l.map (Value.int .u8)).length = off + l.length := by simp; omega
 rw [List.getElem?_toArray, List.getElem?_append_right (by omega), h1, List.getElem?_drop]
 rw [show off + l.length + (j - (off + l.length)) = j by omega, Array.getElem?_toList]
theorem putX_two (x : Array Value) (off : Nat) (l k : List Int) (h : off + l.length ≤ x.size) : putX (putX x off l) (off + l.length) k = putX x off (l ++ k) := by
 apply Array.ext'
 unfold putX
 have h1 : (x.toList.take off ++ l.map (Value.int .u8)).length = off + l.length := by simp; omega
 have h2 : (List.take off x.toList ++ List.map (Value.int .u8) l ++ List.drop (off + l.length) x.toList).take (off + l.length) = List.take off x.toList ++ List.map (Value.int .u8) l := List.take_left' h1
 have h3 : (List.take off x.toList ++ List.map (Value.int .u8) l ++ List.drop (off + l.length) x.toList).drop (off + l.length + k.length) = List.drop (off + (l ++ k).length) x.toList := by
  rw [← List.drop_drop, List.drop_left' h1, List.drop_drop, List.length_append]
  congr 1
  omega
 show List.take (off + l.length) (List.take off x.toList ++ List.map (Value.int .u8) l ++ List.drop (off + l.length) x.toList) ++ _ ++ _ = _
 rw [h2]
 show _ ++ List.drop (off + l.length + k.length) (List.take off x.toList ++ List.map (Value.int .u8) l ++ List.drop (off + l.length) x.toList) = _
 rw [h3, List.map_append]
 simp only [List.append_assoc]

/-! ### The array of the sum, as it fills -/
theorem c_putD {D i : Nat} {l : List Int} {v : Int} {w : World} (hl : l.length = 4 * i) (hi : i < 8) (hv : U32 v) (hg : Blk w D 126 (putX (zs 32) 0 l)) (o n c : Nat) (ho : o = 4 * i) (hn : n + 4 * i = 32) :
  Calls Tryd.prog 83 #[.slice (some ⟨D, o, none⟩) n c, .int .u32 v] w fun e w' => e = .returned (.tuple #[]) ∧ w.grownBy w' (some D) ∧ Blk w' D 126 (putX (zs 32) 0 (l ++ be32 v)) := by
 subst ho
 have hsz := putX_size (zs 32) 0 l (by rw [zs_size]; omega)
 rw [zs_size] at hsz
 have h := c_put32 D (4 * i) n c _ _ v w hg hv (by omega) (by rw [hsz]; omega) (fun j hj => ⟨0, by rw [putX_hi _ _ _ (by rw [zs_size]; omega) _ (by omega), zs_get (by omega)]⟩)
 have e := putX_two (zs 32) 0 l (be32 v) (by rw [zs_size]; omega)
 rw [Nat.zero_add, hl] at e
 rw [e] at h
 exact h

/-! ### The tail of a message -/
theorem shaTail_at {n t : Nat} (h1 : 1 ≤ t) (h2 : t ≤ 64) (ht : shaZeros n = t - 1) {i : Nat} (hi : i < t + 8) :
  (putX ((zs 72).setIfInBounds 0 (.int .u8 128)) t (be64 (8 * n)))[i]? = some (.int .u8 ((shaTail n).getD i 0)) := by
 have hs : ((zs 72).setIfInBounds 0 (Value.int .u8 128)).size = 72 := by rw [Array.size_setIfInBounds, zs_size]
 have hb : (be64 (8 * n)).length = 8 := rfl
 unfold shaTail
 rw [ht]
 by_cases hit : i < t
 ·rw [putX_lo _ _ _ (by omega) _ hit]
  rcases Nat.eq_zero_or_pos i with h0 | h0
  ·subst h0
   rw [Array.getElem?_setIfInBounds_self_of_lt (by rw [zs_size]; omega)]
   rfl
  ·rw [Array.getElem?_setIfInBounds_ne (by omega), zs_get (by omega)]
   obtain ⟨j, rfl⟩ : ∃ j, i = j + 1 := ⟨i - 1, by omega⟩
   have hj : j < t - 1 := by omega
   simp [List.getD_eq_getElem?_getD, List.getElem?_append_left, hj]
 ·obtain ⟨j, rfl⟩ : ∃ j, i = t + j := ⟨i - t, by omega⟩
  rw [putX_in _ _ _ (by omega) _ (by omega)]
  have e : (128 :: (List.replicate (t - 1) (0 : Int) ++ be64 (8 * n))) = (128 :: List.replicate (t - 1) 0) ++ be64 (8 * n) := rfl
  have e2 : (128 :: List.replicate (t - 1) (0 : Int)).length = t := by simp; omega
  have := getD_app (128 :: List.replicate (t - 1) (0 : Int)) (be64 (8 * n)) j
  rw [e2] at this
  rw [e, this]
theorem shaTail_length {n t : Nat} (h1 : 1 ≤ t) (ht : shaZeros n = t - 1) : (shaTail n).length = t + 8 := by
 unfold shaTail; rw [ht]; simp [be64]; omega
theorem shaTail_bytes (n : Nat) : Bytes (shaTail n) := by
 intro x hx
 unfold shaTail at hx
 rcases List.mem_cons.1 hx with h | h
 ·subst h; exact ⟨by decide, by decide⟩
 ·rcases List.mem_append.1 h with h | h
  ·rw [List.eq_of_mem_replicate h]; exact ⟨by decide, by decide⟩
  ·unfold be64 at h
   simp only [List.mem_cons, List.not_mem_nil, or_false] at h
   unfold U8
   omega
theorem padded_mod (m : List Int) : (padded m).length % 64 = 0 := by
 unfold padded
 have : (shaTail m.length).length = shaZeros m.length + 9 := by unfold shaTail; simp [be64]
 rw [List.length_append, this]
 unfold shaZeros
 omega
theorem be32_length (x : Int) : (be32 x).length = 4 := rfl
theorem shaOut_length (s : ShaSt) : (shaOut s).length = 32 := rfl
theorem be32_bytes {x : Int} (h : U32 x) : Bytes (be32 x) := by
 unfold U32 at h
 intro y hy
 unfold be32 at hy
 simp only [List.mem_cons, List.not_mem_nil, or_false] at hy
 unfold U8
 omega
end Go.Proofs.YtcmllcmcbamlbaaDoor
