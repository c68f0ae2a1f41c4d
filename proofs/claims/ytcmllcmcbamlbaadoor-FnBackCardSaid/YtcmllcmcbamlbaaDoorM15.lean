/- FnBack: the law's walk. (Printed by gen_fnback.py.) FnBack: whatever the input, the law returns true, and its arguments read as they did; the table of SHA-256 as the program's text lays it. No condition. -/
import Derived.Test.YtcmllcmcbamlbaaDoorM14
import Derived.Test.YtcmllcmcbamlbaaDoorM12
import Derived.Test.YtcmllcmcbamlbaaDoorRows
import Derived.Test.YtcmllcmcbamlbaaDoorCards
import Derived.Test.YtcmllcmcbamlbaaDoorTie
import Derived.ProofKit
import Derived.OpenShut
import Derived.ChangeOld
import Derived.Below
import Derived.Lay
import Derived.LaidMore
import Derived.SevenTiedAt
import Derived.Deep.Slices
import Derived.Deep.Fields
import Derived.ChangeSame
import Derived.Carry
set_option linter.unusedVariables false
set_option linter.unusedSimpArgs false
namespace Go.Proofs.YtcmllcmcbamlbaaDoor
open Go.RowKit
/-- All sums are there. -/
structure Hd.full (H : Hd) : Prop where
 bh : H.bh.l.length = 32
 bp : H.bp.l.length = 32
 hh : ∀ i, i < 8 → (H.hh i).l.length = 32
theorem Hd.full.sized {H : Hd} (h : H.full) : H.sized := ⟨.inr h.bh, .inr h.bp, fun i hi => .inr (h.hh i hi)⟩
theorem Hd.full.ne {H : Hd} (h : H.full) : (((H.hh 2).l.length : Int) == 0) = false := by rw [h.hh 2 (by decide)]; decide
theorem hd_not_u8 (H : Hd) : ∀ (i : Nat) (x : Int), H.cells[i]? ≠ some (Value.int .u8 x) := by
 intro i x h
 have hm : Value.int .u8 x ∈ H.cells.toList := by
  rw [Array.mem_toList_iff]
  exact Array.mem_of_getElem? h
 simp [Hd.cells, HSl.v] at hm
/-- Sums stay as they are where a header's cells turn. -/
theorem HSl.ok.hd {s : HSl} {w w' : World} {g : Nat} {H : Hd} (h : s.ok w) (hn : s.l.length = 32) (hg : Blk w g 33 H.cells) (hgb : w.grownBy w' (some g)) : s.ok w' := h.gb hgb (not_u8 h (by omega) hg (hd_not_u8 H))
theorem Hd.ok.hd {J H : Hd} {w w' : World} {g : Nat} (h : J.ok w) (hf : J.full) (hg : Blk w g 33 H.cells) (hgb : w.grownBy w' (some g)) : J.ok w' := ⟨h.bh.hd hf.bh hg hgb, h.bp.hd hf.bp hg hgb, fun i hi => (h.hh i hi).hd (hf.hh i hi) hg hgb⟩
theorem Headed.full {ch : ByteArray} {ht sec ns : Int} {X Y : List Seat} {pr : ByteArray} {salt : List Int} {H : Hd} (h : Headed ch ht sec ns X Y pr salt H) : H.full := by
 obtain ⟨bh, bp, hh, rfl, h1, h2, _, _, _, h6⟩ := h
 exact ⟨by show bh.l.length = 32; rw [h1]; exact shaN _, by show bp.l.length = 32; rw [h2]; exact shaN _, h6⟩
theorem Headed.num {ch : ByteArray} {ht sec ns : Int} {X Y : List Seat} {pr : ByteArray} {salt : List Int} {H : Hd} (h : Headed ch ht sec ns X Y pr salt H) (h1 : 0 ≤ ht ∧ ht ≤ 9223372036854775807) (h2 : 0 ≤ sec ∧ sec ≤ 4000000000) (h3 : 0 ≤ ns ∧ ns ≤ 999999999) (h4 : ch.size ≤ 1000000000) (h5 : pr.size ≤ 1000000000) : H.num := by
 obtain ⟨bh, bp, hh, rfl, _⟩ := h
 exact ⟨show (0 : Int) ≤ 11 ∧ (11 : Int) ≤ 9223372036854775807 by decide, show (0 : Int) ≤ 0 ∧ (0 : Int) ≤ 9223372036854775807 by decide, h1, h2, h3, show (0 : Int) ≤ 1 ∧ (1 : Int) ≤ 4294967295 by decide, h4, h5⟩
theorem Headed.ht {ch : ByteArray} {ht sec ns : Int} {X Y : List Seat} {pr : ByteArray} {salt : List Int} {H : Hd} (h : Headed ch ht sec ns X Y pr salt H) : H.ht = ht := by
 obtain ⟨bh, bp, hh, rfl, _⟩ := h
 rfl
theorem Hd.set6 (H : Hd) (s : HSl) : H.cells.setIfInBounds 6 s.v = ({H with bh := s} : Hd).cells := by simp [Hd.cells]
theorem Hd.set2 (H : Hd) (s : ByteArray) : H.cells.setIfInBounds 2 (.string s) = ({H with ch := s} : Hd).cells := by simp [Hd.cells]
theorem Hd.set0 (H : Hd) (n : Int) : H.cells.setIfInBounds 0 (.int .i64 n) = ({H with vb := n} : Hd).cells := by simp [Hd.cells]
theorem Hd.set17 (H : Hd) (s : ByteArray) : H.cells.setIfInBounds 17 (.string s) = ({H with pr := s} : Hd).cells := by simp [Hd.cells]

set_option maxHeartbeats 4000000 in
set_option maxRecDepth 100000 in
theorem w_FnBack (L : List Seat) (A At : Option Addr) (c ct : Nat) (wait twist : Int) (txt : List Int) (w : World) (hL : SeatsAt w A L) (hf : Fm A L.length c ∨ ∃ ad, A = some ad ∧ L = []) (hc : L.length ≤ c) (hcm : c ≤ 9223372036854775807) (hp : ∀ s ∈ L, -9223372036854775808 ≤ s.p ∧ s.p ≤ 9223372036854775807) (hwt : -9223372036854775808 ≤ wait ∧ wait ≤ 9223372036854775807) (htw : -9223372036854775808 ≤ twist ∧ twist ≤ 9223372036854775807) (hT : Bs w At txt) (hTf : Fm At txt.length ct ∨ ∃ ad, At = some ad ∧ txt = []) (hTc : txt.length ≤ ct) (hT8 : Bytes txt) (hKt : KTab w 0) :
  Calls Tryd.prog 3 #[.slice A L.length c, .int .i64 wait, .int .i64 twist, .slice At txt.length ct] w fun e w' => e = .returned (.bool true) ∧ Below w.heap.size w w' := by
 suffices h : ∀ w0, (SeatsAt w0 A L) → (Bs w0 At txt) → (KTab w0 0) → Below w0.heap.size w0 w → Calls Tryd.prog 3 #[.slice A L.length c, .int .i64 wait, .int .i64 twist, .slice At txt.length ct] w fun e w' => e = .returned (.bool true) ∧ Below w0.heap.size w0 w' from h w hL hT hKt (bz_refl w)
 clear hL hT hKt
 intro w0 hL hT hKt hB
 refine enter_abs Tryd.func3 rfl 95 rfl (by simp) ?_
 intro a hs hd hargs
 have s0 := hargs 0 _ rfl
 have s1 := hargs 1 _ rfl
 have s2 := hargs 2 _ rfl
 have s3 := hargs 3 _ rfl
 clear hargs
 refine wp_seq ?_
 refine wp_region_list ?_
 show wpList _ _ _ [_] _ _
 refine tail_op rfl (fun K hK => ?_)
 go_simp
 refine hK _ _ ?_
 clear hK K
 refine act_put (d := 8) _ hs hd (by decide) [(0, _), (1, _), (2, _), (3, _)] ⟨s0, s1, s2, s3, trivial⟩ rfl ?_
 clear hs hd s0 s1 s2 s3
 intro a hs hd zl
 obtain ⟨n, hn⟩ : ∃ n, Is txt.length n := is_self _
 obtain ⟨-, s0, s1, s2, s3, -⟩ := zl
 rw [show txt.length = n from hn.out] at s3 hTc hTf
 obtain ⟨fb, hfit⟩ : ∃ b, fitsB L = b := ⟨_, rfl⟩
 cases fb
 ·refine wp_seq ?_
  refine wp_seq ?_
  refine fl2 (F := [(0, _), (1, _), (2, _), (3, _)]) [.eq 12 _, .eq 13 (.bool false), .eq 14 _, .eq 15 (.bool true), .eq 16 _, .eq 17 _, .eq 18 _] 7 hs hd ⟨s0, s1, s2, s3, trivial⟩
   ⟨(stp rfl fun a u hb hs hl hd K hK => by have s0 := gL hl 0; clear hd; go_simp; exact kE hK hs),
    (stp rfl fun a u hb hs hl hd K hK => by
     have s12 := gD hd 0
     clear hd
     go_simp
     refine (c_zzFits1 L A c _ (hL.after (bz_then hB hb))).mono ?_
     rintro e w3 ⟨rfl, hb2⟩
     rw [hfit]
     exact hK _ _ hb2 (eq_put hs (by decide))),
    (stp rfl fun a u hb hs hl hd K hK => by have s13 := gD hd 1; clear hd; go_simp; exact kE hK hs),
    (stp rfl fun a u hb hs hl hd K hK => by have s14 := gD hd 2; clear hd; go_simp; exact kE hK hs),
    (fun a u hb hs hl hd K hK => by have s3 := gL hl 3; have g15 := vD hd 3; clear hd; refine step_no rfl (j := 3) (d := 15) rfl rfl g15 (by decide) ?_; exact kE hK hs),
    (fun a u hb hs hl hd K hK => by have s16 := gD hd 4; have g15 := vD hd 3; clear hd; refine step_no rfl (j := 3) (d := 15) rfl rfl g15 (by decide) ?_; exact kE hK hs),
    (fun a u hb hs hl hd K hK => by have s17 := gD hd 5; have g15 := vD hd 3; clear hd; refine step_no rfl (j := 3) (d := 15) rfl rfl g15 (by decide) ?_; exact kE hK hs),
    trivial⟩ ?_
  clear hs hd s0 s1 s2 s3
  intro a w hb hs hd zl hh
  replace zl := lH hh 3 zl
  replace zl := lH hh 6 zl
  clear hh
  replace hB := bz_then hB hb
  clear hb
  show wpList _ _ _ [_] _ _
  refine tail_op rfl (fun K hK => ?_)
  have q15 := gL zl 1
  have q18 := gL zl 0
  go_simp
  clear q15 q18
  refine hK _ _ (tP hs hd zl ?_)
  clear hK K hs hd zl
  intro a hs hd zl
  refine wp_cond_true (vL zl 0) ?_
  refine wp_seq ?_
  refine wp_region_list ?_
  show wpList _ _ _ [_] _ _
  refine tail_op rfl (fun K hK => ?_)
  go_simp
  refine hK _ _ (tP hs hd zl ?_)
  clear hK K hs hd zl
  intro a hs hd zl
  refine wp_ret ?_
  repeat first | refine then_ret ?_ | refine inBlock_ret ?_
  exact end_tmp rfl hd (vL zl 0) ⟨rfl, hB⟩
 have hFK := Is.hid (fitsB_k hfit)
 by_cases hbig : n ≤ 2147483647
 ·have e0 : decide (2147483647 < n) = false := decide_eq_false (by omega)
  have e0' : decide ((2147483647 : Int) < (n : Int)) = false := decide_eq_false (by omega)
  refine wp_seq ?_
  refine wp_seq ?_
  refine fl2 (F := [(0, _), (1, _), (2, _), (3, _)]) [.eq 12 _, .eq 13 (.bool true), .eq 14 _, .eq 15 (.bool false), .eq 16 _, .eq 17 _, .eq 18 (.bool false)] 7 hs hd ⟨s0, s1, s2, s3, trivial⟩
   ⟨(stp rfl fun a u hb hs hl hd K hK => by have s0 := gL hl 0; clear hd; go_simp; exact kE hK hs),
    (stp rfl fun a u hb hs hl hd K hK => by
     have s12 := gD hd 0
     clear hd
     go_simp
     refine (c_zzFits1 L A c _ (hL.after (bz_then hB hb))).mono ?_
     rintro e w3 ⟨rfl, hb2⟩
     rw [hfit]
     exact hK _ _ hb2 (eq_put hs (by decide))),
    (stp rfl fun a u hb hs hl hd K hK => by have s13 := gD hd 1; clear hd; go_simp; exact kE hK hs),
    (stp rfl fun a u hb hs hl hd K hK => by have s14 := gD hd 2; clear hd; go_simp; exact kE hK hs),
    (fun a u hb hs hl hd K hK => by have s3 := gL hl 3; have g15 := vD hd 3; clear hd; refine step_yes rfl (j := 3) (d := 15) rfl rfl g15 ?_; go_simp; exact kE hK hs),
    (fun a u hb hs hl hd K hK => by have s16 := gD hd 4; have g15 := vD hd 3; clear hd; refine step_yes rfl (j := 3) (d := 15) rfl rfl g15 ?_; go_simp; exact kE hK hs),
    (fun a u hb hs hl hd K hK => by have s17 := gD hd 5; have g15 := vD hd 3; clear hd; refine step_yes rfl (j := 3) (d := 15) rfl rfl g15 ?_; go_simp; exact kE hK hs),
    trivial⟩ ?_
  clear hs hd s0 s1 s2 s3
  intro a w hb hs hd zl hh
  replace zl := lH hh 3 zl
  replace zl := lH hh 6 zl
  clear hh
  replace hB := bz_then hB hb
  clear hb
  show wpList _ _ _ [_] _ _
  refine tail_op rfl (fun K hK => ?_)
  have q15 := gL zl 1
  have q18 := gL zl 0
  go_simp
  clear q15 q18
  refine hK _ _ (tP hs hd zl ?_)
  clear hK K hs hd zl
  intro a hs hd zl
  refine wp_cond_false (vL zl 0) ?_
  refine wp_skip ?_
  clear e0 e0' hfit
  refine wp_seq ?_
  refine wp_region_list ?_
  show wpList _ _ _ [_, _, _] _ _
  refine tail_op rfl (fun K hK => ?_)
  have q0 := gL zl 3
  go_simp
  clear q0
  refine hK _ _ (tP hs hd zl ?_)
  clear hK K hs hd zl
  intro a hs hd zl
  refine tail_op rfl (fun K hK => ?_)
  have q20 := gL zl 0
  go_simp
  refine (c_set L A c _ (hL.after hB) hf hc hcm (fun s hs' => ⟨hFK.out s hs', hp s hs'⟩)).mono ?_
  rintro e w3 ⟨S, AS, cS, rfl, hok, hSat, hSf, hSc, hb2⟩
  clear q20
  refine hK _ _ (tP hs hd zl ?_)
  clear hK K hs hd zl
  intro a hs hd zl
  replace hB := bz_then hB hb2
  clear hb2
  refine tail_op rfl (fun K hK => ?_)
  have q21 := gL zl 0
  go_simp
  clear q21
  refine hK _ _ (tP hs hd zl ?_)
  clear hK K hs hd zl
  intro a hs hd zl
  by_cases hS0 : S.length = 0
  ·have e0 : (S.length == 0) = true := by rw [beq_iff_eq]; exact hS0
   have e0' : ((S.length : Int) == 0) = true := by rw [beq_iff_eq]; omega
   refine wp_seq ?_
   refine wp_seq ?_
   refine wp_region_list ?_
   show wpList _ _ _ [_, _, _] _ _
   refine tail_op rfl (fun K hK => ?_)
   have q9 := gL zl 0
   go_simp
   clear q9
   refine hK _ _ (tP hs hd zl ?_)
   clear hK K hs hd zl
   intro a hs hd zl
   refine tail_op rfl (fun K hK => ?_)
   have q22 := gL zl 0
   go_simp
   clear q22
   refine hK _ _ (tP hs hd zl ?_)
   clear hK K hs hd zl
   intro a hs hd zl
   refine tail_op rfl (fun K hK => ?_)
   have q23 := gL zl 0
   go_simp
   clear q23
   refine hK _ _ (tP hs hd zl ?_)
   clear hK K hs hd zl
   intro a hs hd zl
   refine wp_cond_true (vL zl 0) ?_
   refine wp_seq ?_
   refine wp_region_list ?_
   show wpList _ _ _ [_] _ _
   refine tail_op rfl (fun K hK => ?_)
   go_simp
   refine hK _ _ (tP hs hd zl ?_)
   clear hK K hs hd zl
   intro a hs hd zl
   refine wp_ret ?_
   repeat first | refine then_ret ?_ | refine inBlock_ret ?_
   exact end_tmp rfl hd (vL zl 0) ⟨rfl, hB⟩
  have e0 : ((S.length : Int) == 0) = false := by rw [beq_eq_false_iff_ne]; omega
  have e0' : (S.length == 0) = false := by rw [beq_eq_false_iff_ne]; exact hS0
  refine wp_seq ?_
  refine wp_seq ?_
  refine wp_region_list ?_
  show wpList _ _ _ [_, _, _] _ _
  refine tail_op rfl (fun K hK => ?_)
  have q9 := gL zl 0
  go_simp
  clear q9
  refine hK _ _ (tP hs hd zl ?_)
  clear hK K hs hd zl
  intro a hs hd zl
  refine tail_op rfl (fun K hK => ?_)
  have q22 := gL zl 0
  go_simp
  clear q22
  refine hK _ _ (tP hs hd zl ?_)
  clear hK K hs hd zl
  intro a hs hd zl
  refine tail_op rfl (fun K hK => ?_)
  have q23 := gL zl 0
  go_simp
  clear q23
  refine hK _ _ (tP hs hd zl ?_)
  clear hK K hs hd zl
  intro a hs hd zl
  refine wp_cond_false (vL zl 0) ?_
  refine wp_skip ?_
  clear e0 e0'
  obtain ⟨x0, hx0⟩ : ∃ x, S[0]? = some x := ⟨S[0]'(by omega), List.getElem?_eq_getElem (by omega)⟩
  have hx0g := hok.good.get hx0
  obtain ⟨m, hm⟩ : ∃ m, Is (if n ≤ 100 then n else 100) m := is_self _
  have hm100 : m ≤ 100 := by rw [← hm.out]; split <;> omega
  have hmn : m ≤ n := by rw [← hm.out]; split <;> omega
  have hmc : m ≤ ct := by omega
  have hmin : (if (100 : Int) < (n : Int) then (100 : Int) else (n : Int)) = (m : Int) := by rw [← hm.out]; split <;> split <;> omega
  have hm3 : (m : Int) ≤ (n : Int) := by omega
  have hm4 : (m : Int) ≤ (ct : Int) := by omega
  have hm5 : (0 : Int) ≤ (m : Int) := by omega
  obtain ⟨tx, htx⟩ : ∃ t, Is (txt.take m) t := is_self _
  have htl : tx.length = m := by rw [← htx.out, List.length_take, hn.out]; omega
  have ht8 : Bytes tx := by rw [← htx.out]; exact hT8.take _
  have hTx : Bs w0 At tx := by rw [← htx.out]; exact hT.take _
  have hTxf : Fm At tx.length ct ∨ ∃ ad, At = some ad ∧ tx = [] := by
   rw [htl]
   rcases hTf with (⟨h1, h2, h3⟩ | h) | ⟨ad, h1, h2⟩
   ·exact .inl (.inl ⟨h1, h2, by omega⟩)
   ·exact .inl (.inr h)
   ·exact .inr ⟨ad, h1, by rw [← htx.out, h2]; exact List.take_nil⟩
  have HTL := Is.hid htl
  clear htl
  refine wp_seq ?_
  refine wp_region_list ?_
  show wpList _ _ _ [_, _, _, _, _, _] _ _
  refine tail_op rfl (fun K hK => ?_)
  have q3 := gL zl 12
  go_simp
  clear q3
  refine hK _ _ (tP hs hd zl ?_)
  clear hK K hs hd zl
  intro a hs hd zl
  refine tail_op rfl (fun K hK => ?_)
  have q3 := gL zl 13
  go_simp
  clear q3
  refine hK _ _ (tP hs hd zl ?_)
  clear hK K hs hd zl
  intro a hs hd zl
  refine tail_op rfl (fun K hK => ?_)
  have q26 := gL zl 0
  go_simp
  clear q26
  refine hK _ _ (tP hs hd zl ?_)
  clear hK K hs hd zl
  intro a hs hd zl
  refine tail_op rfl (fun K hK => ?_)
  have q27 := gL zl 0
  go_simp
  clear q27
  refine hK _ _ (tP hs hd zl ?_)
  clear hK K hs hd zl
  intro a hs hd zl
  refine tail_op rfl (fun K hK => ?_)
  have q25 := gL zl 3
  have q28 := gL zl 0
  suffices hS : K (a.put (some 29) (.slice At m ct)) w3 by
   rcases hTf with (⟨rfl, rfl, h0⟩ | ⟨bT, oT, rfl⟩) | ⟨ad, rfl, h0⟩
   ·subst h0
    obtain rfl : m = 0 := by omega
    go_simp
    exact hS
   ·go_simp
    exact hS
   ·subst h0
    have hn0 : (0 : Nat) = n := hn.out
    subst hn0
    obtain rfl : m = 0 := by omega
    go_simp
    exact hS
  clear q25 q28
  refine hK _ _ (tP hs hd zl ?_)
  clear hK K hs hd zl
  intro a hs hd zl
  refine tail_op rfl (fun K hK => ?_)
  have q29 := gL zl 0
  go_simp
  clear q29
  refine hK _ _ ?_
  clear hK K
  obtain ⟨s29, s28, s27, s26, s25, s24, -, -, s9, -, -, -, -, -, -, s1, s2, s3, -⟩ := zl
  refine act_put (d := 3) _ hs hd (by decide) [(1, _), (2, _), (9, _), (24, _), (25, _), (26, _), (27, _), (28, _), (29, _)] ⟨s1, s2, s9, s24, s25, s26, s27, s28, s29, trivial⟩ rfl ?_
  clear hs hd s1 s2 s3 s9 s24 s25 s26 s27 s28 s29
  intro a hs hd zl
  obtain ⟨s3, s1, s2, s9, -, -, -, -, -, -, -⟩ := zl
  rw [show m = tx.length from HTL.out.symm] at s3
  clear hmin hm3 hm4 hm5 hmc hTf
  refine wp_seq ?_
  refine wp_region_list ?_
  show wpList _ _ _ [_, _, _, _, _, _, _] _ _
  refine tail_op rfl (fun K hK => ?_)
  go_simp
  refine hK _ _ ?_
  clear hK K
  refine act_put (d := 30) _ hs hd (by decide) [(1, _), (2, _), (3, _), (9, _)] ⟨s1, s2, s3, s9, trivial⟩ rfl ?_
  clear hs hd s1 s2 s3 s9
  intro a hs hd zl
  refine tail_op rfl (fun K hK => ?_)
  have q9 := gL zl 4
  go_simp
  clear q9
  refine hK _ _ (tP hs hd zl ?_)
  clear hK K hs hd zl
  intro a hs hd zl
  refine tail_op rfl (fun K hK => ?_)
  have q9 := gL zl 5
  go_simp
  clear q9
  refine hK _ _ (tP hs hd zl ?_)
  clear hK K hs hd zl
  intro a hs hd zl
  refine tail_op rfl (fun K hK => ?_)
  have q3 := gL zl 5
  go_simp
  clear q3
  refine hK _ _ (tP hs hd zl ?_)
  clear hK K hs hd zl
  intro a hs hd zl
  refine tail_op rfl (fun K hK => ?_)
  have q30 := gL zl 3
  have q31 := gL zl 2
  have q32 := gL zl 1
  have q33 := gL zl 0
  go_simp
  refine (c_headed ⟨#[99]⟩ 7 1000 0 S S AS AS At cS cS ct tx x0 _ hSat hSat hok.good hok.good hok.le hok.le hx0 (hTx.after hB) ht8 (by have := HTL.out; omega)).mono ?_
  rintro e w4 ⟨H, rfl, hHd, hHk, hb2⟩
  clear q30 q31 q32 q33
  refine hK _ _ (tP hs hd zl ?_)
  clear hK K hs hd zl
  intro a hs hd zl
  replace hB := bz_then hB hb2
  replace hSat := hSat.after hb2
  clear hb2
  refine tail_op rfl (fun K hK => ?_)
  go_simp
  refine hK _ _ (tP hs hd zl ?_)
  clear hK K hs hd zl
  intro a hs hd zl
  refine tail_op rfl (fun K hK => ?_)
  have q10 := gL zl 0
  have q34 := gL zl 1
  have s10 := vL zl 0
  have s34 := vL zl 1
  refine op_store_row 33 (.tmp 10) (.tmp 34) rfl w4.heap.size s10 H.cells s34 33 _ (Blk.new w4 _ _) rfl (by kernel_rfl) (Hd.one _) ?_
  clear q10 q34
  refine hK _ _ ?_
  clear hK K
  change wpList _ _ _ _ a _
  rw [setRow_alloc_at _ _ _ _ _ rfl]
  obtain ⟨g, hE⟩ : ∃ B, Is w4.heap.size B := is_self _
  generalize hw1 : World.alloc w4 _ = w1
  have hg : Blk w1 g 33 H.cells := by rw [← hw1, ← hE.out]; exact Blk.new w4 _ _
  have hB1 : Below w4.heap.size w4 w1 := by rw [← hw1]; exact bz_alloc (bz_refl w4) _
  have hBg0 := Nat.le_trans hB.size (Nat.le_of_eq hE.out)
  replace hB := bz_then hB hB1
  replace hSat := hSat.after hB1
  replace hHk := hHk.after hB1
  clear s10 s34
  obtain ⟨s10, s34, s33, s32, s31, s30, s1, s2, s3, s9, -⟩ := zl
  rw [hE.out] at s10
  clear hw1 hB1 hE
  clear s30 s31 s32 s33 s34
  have hHn : H.num := hHd.num (by decide) (by decide) (by decide) (by decide) (by have := hx0g.a; omega)
  have hHf := hHd.full
  have hHt : 0 < H.ht := by rw [hHd.ht]; decide
  clear hHd
  obtain ⟨bw, hbw⟩ : ∃ n, Is (bel wait 5) n := is_self _
  have hbr := bel_range wait 5 (by decide)
  rw [hbw.out] at hbr
  have ea : IntKind.i64.wrap (1000 + bw) = 1000 + bw := IntWalk.i64_in _ (by omega)
  have eb : IntKind.i64.wrap (1000 + bw - 1) = 1000 + bw - 1 := IntWalk.i64_in _ (by omega)
  refine wp_seq ?_
  refine wp_region_list ?_
  show wpList _ _ _ [_, _, _, _, _, _, _, _, _, _] _ _
  refine tail_op rfl (fun K hK => ?_)
  have q1 := gd s1
  go_simp
  clear q1
  refine hK _ _ ?_
  clear hK K
  refine act_put (d := 35) _ hs hd (by decide) [(1, _), (2, _), (3, _), (9, _), (10, _)] ⟨s1, s2, s3, s9, s10, trivial⟩ rfl ?_
  clear hs hd s1 s2 s3 s9 s10
  intro a hs hd zl
  refine tail_op rfl (fun K hK => ?_)
  have q35 := gL zl 0
  go_simp
  refine (c_below wait 5 _ hwt (by decide)).mono ?_
  rintro e w3 ⟨rfl, hw3⟩
  obtain rfl := hw3
  rw [hbw.out]
  clear q35
  refine hK _ _ (tP hs hd zl ?_)
  clear hK K hs hd zl
  intro a hs hd zl
  refine tail_op rfl (fun K hK => ?_)
  have q36 := gL zl 0
  go_simp
  clear q36
  refine hK _ _ (tP hs hd zl ?_)
  clear hK K hs hd zl
  intro a hs hd zl
  refine tail_op rfl (fun K hK => ?_)
  have q37 := gL zl 0
  go_simp
  clear q37
  refine hK _ _ (tP hs hd zl ?_)
  clear hK K hs hd zl
  intro a hs hd zl
  refine tail_op rfl (fun K hK => ?_)
  have q38 := gL zl 0
  go_simp
  clear q38
  refine hK _ _ (tP hs hd zl ?_)
  clear hK K hs hd zl
  intro a hs hd zl
  refine tail_op rfl (fun K hK => ?_)
  have q9 := gL zl 8
  go_simp
  clear q9
  refine hK _ _ (tP hs hd zl ?_)
  clear hK K hs hd zl
  intro a hs hd zl
  refine tail_op rfl (fun K hK => ?_)
  have q9 := gL zl 9
  go_simp
  clear q9
  refine hK _ _ (tP hs hd zl ?_)
  clear hK K hs hd zl
  intro a hs hd zl
  refine tail_op rfl (fun K hK => ?_)
  have q39 := gL zl 2
  have q40 := gL zl 1
  have q41 := gL zl 0
  go_simp
  refine (c_headed ⟨#[99]⟩ 8 (1000 + bw - 1) 0 S S AS AS none cS cS 0 [] x0 _ hSat hSat hok.good hok.good hok.le hok.le hx0 (Bs.nil _ _) Bytes.nil (by decide)).mono ?_
  rintro e w4 ⟨J, rfl, hJd, hJk, hb2⟩
  clear q39 q40 q41
  refine hK _ _ (tP hs hd zl ?_)
  clear hK K hs hd zl
  intro a hs hd zl
  replace hB := bz_then hB hb2
  replace hg := hg.after hb2
  replace hHk := hHk.after hb2
  clear hb2 hSat
  refine tail_op rfl (fun K hK => ?_)
  go_simp
  refine hK _ _ (tP hs hd zl ?_)
  clear hK K hs hd zl
  intro a hs hd zl
  refine tail_op rfl (fun K hK => ?_)
  have q11 := gL zl 0
  have q42 := gL zl 1
  have s11 := vL zl 0
  have s42 := vL zl 1
  refine op_store_row 33 (.tmp 11) (.tmp 42) rfl w4.heap.size s11 J.cells s42 33 _ (Blk.new w4 _ _) rfl (by kernel_rfl) (Hd.one _) ?_
  clear q11 q42
  refine hK _ _ ?_
  clear hK K
  change wpList _ _ _ _ a _
  have hgw := hg.lt
  rw [setRow_alloc_at _ _ _ _ _ rfl]
  obtain ⟨j, hE⟩ : ∃ B, Is w4.heap.size B := is_self _
  generalize hw1 : World.alloc w4 _ = w1
  have hj : Blk w1 j 33 J.cells := by rw [← hw1, ← hE.out]; exact Blk.new w4 _ _
  have hB1 : Below w4.heap.size w4 w1 := by rw [← hw1]; exact bz_alloc (bz_refl w4) _
  have hgj : g ≠ j := by rw [← hE.out]; exact Nat.ne_of_lt hgw
  have hBj := Nat.le_trans hB.size (Nat.le_of_eq hE.out)
  replace hB := bz_then hB hB1
  replace hg := hg.after hB1
  replace hHk := hHk.after hB1
  replace hJk := hJk.after hB1
  clear s11 s42
  obtain ⟨s11, s42, s41, s40, s39, s38, s37, s36, s35, s1, s2, s3, s9, s10, -⟩ := zl
  rw [hE.out] at s11
  clear hw1 hB1 hE
  clear s1 s9 s35 s36 s37 s38 s39 s40 s41 s42
  have hJn : J.num := hJd.num (by decide) (by omega) (by decide) (by decide) (by have := hx0g.a; omega)
  have hJf := hJd.full
  clear hJd ea eb hbr hbw
  refine wp_seq ?_
  refine wp_region_list ?_
  show wpList _ _ _ [_, _, _, _, _, _] _ _
  refine tail_op rfl (fun K hK => ?_)
  have q10 := gd s10
  refine op_load_row 33 (.tmp 10) rfl g s10 _ _ _ hg rfl rfl (by kernel_rfl) ?_
  clear q10
  refine hK _ _ ?_
  clear hK K
  refine act_put (d := 43) _ hs hd (by decide) [(2, _), (3, _), (10, _), (11, _)] ⟨s2, s3, s10, s11, trivial⟩ rfl ?_
  clear hs hd s2 s3 s10 s11
  intro a hs hd zl
  refine tail_op rfl (fun K hK => ?_)
  have q43 := gL zl 0
  go_simp
  refine (c_lheader H _).mono ?_
  rintro e w3 ⟨rfl, hb2⟩
  clear q43
  refine hK _ _ (tP hs hd zl ?_)
  clear hK K hs hd zl
  intro a hs hd zl
  replace hB := bz_then hB hb2
  replace hg := hg.after hb2
  replace hj := hj.after hb2
  replace hHk := hHk.after hb2
  replace hJk := hJk.after hb2
  clear hb2
  refine tail_op rfl (fun K hK => ?_)
  have q44 := gL zl 0
  go_simp
  refine (c_HeaderSum H _ hHn hHk hHf.ne).mono ?_
  rintro e w4 ⟨v, rfl, hv, hb2⟩
  clear q44
  refine hK _ _ (tP hs hd zl ?_)
  clear hK K hs hd zl
  intro a hs hd zl
  replace hB := bz_then hB hb2
  replace hg := hg.after hb2
  replace hj := hj.after hb2
  replace hHk := hHk.after hb2
  replace hJk := hJk.after hb2
  obtain ⟨s, rfl, hso, hsl⟩ := hv.sl (rootN_bytes _ _) (by rw [rootN_len]; decide)
  have hs32 : Kept (s.l.length = 32) := Is.hid (by rw [hsl.out, rootN_len])
  obtain ⟨s45, s44, s43, s2, s3, s10, s11, -⟩ := zl
  unfold HSl.v at s45
  clear hb2 hsl
  refine tail_op rfl (fun K hK => ?_)
  have q11 := gd s11
  go_simp
  clear q11
  refine hK _ _ ?_
  clear hK K
  refine act_put (d := 46) _ hs hd (by decide) [(2, _), (3, _), (10, _), (11, _), (43, _), (44, _), (45, _)] ⟨s2, s3, s10, s11, s43, s44, s45, trivial⟩ rfl ?_
  clear hs hd s2 s3 s10 s11 s43 s44 s45
  intro a hs hd zl
  refine tail_op rfl (fun K hK => ?_)
  have q46 := gL zl 0
  go_simp
  clear q46
  refine hK _ _ (tP hs hd zl ?_)
  clear hK K hs hd zl
  intro a hs hd zl
  refine tail_op rfl (fun K hK => ?_)
  have q45 := gL zl 8
  have q47 := gL zl 0
  have cz : w4.cell? ⟨j, 6, none⟩ = some (J.bh.v) := by rw [hj.cell]; rfl
  unfold HSl.v at cz
  have fz : w4.frozen? ⟨j, 6, none⟩ = false := hj.free _
  go_simp
  clear q45 q47
  refine hK _ _ ?_
  clear hK K
  change wpList _ _ _ _ a _
  have hgs := gb1 w4 j 6 (.slice s.A s.l.length s.c)
  have hj2 : Blk (World.setCell w4 ⟨j, 6, none⟩ (.slice s.A s.l.length s.c)) j 33 ({J with bh := s} : Hd).cells := by
   have h := Blk.set_ hj 6 s.v
   rw [Hd.set6] at h
   exact h
  replace hB := Below.setCell hB (p := ⟨j, 6, none⟩) hBj (.slice s.A s.l.length s.c)
  replace hHk := hHk.hd hHf hj hgs
  have hJk2 : ({J with bh := s} : Hd).ok _ := ⟨hso.hd hs32.out hj hgs, hJk.bp.hd hJf.bp hj hgs, fun i hi => (hJk.hh i hi).hd (hJf.hh i hi) hj hgs⟩
  have hJf2 : ({J with bh := s} : Hd).full := ⟨hs32.out, hJf.bp, hJf.hh⟩
  have hJn2 : ({J with bh := s} : Hd).num := ⟨hJn.vb, hJn.va, hJn.ht, hJn.sec, hJn.ns, hJn.bt, hJn.ch, hJn.pr⟩
  replace hg := hg.gbfar hgs hgj.symm
  obtain ⟨J2, hJ2⟩ : ∃ J2, Is ({J with bh := s} : Hd) J2 := is_self _
  rw [hJ2.out] at hj2 hJk2 hJf2 hJn2
  clear hj hJk hJf hJn hJ2 hso hs32
  have hj := hj2
  have hJk := hJk2
  have hJf := hJf2
  have hJn := hJn2
  clear hj2 hJk2 hJf2 hJn2
  clear hgs cz fz
  generalize World.setCell w4 _ _ = w5 at hB hg hj hHk hJk ⊢
  refine wp_seq ?_
  refine wp_seq ?_
  obtain ⟨tw, htw2⟩ : ∃ n, Is (bel twist 10) n := is_self _
  refine wp_region_list ?_
  show wpList _ _ _ [_, _] _ _
  refine tail_op rfl (fun K hK => ?_)
  have q2 := gL zl 2
  go_simp
  clear q2
  refine hK _ _ (tP hs hd zl ?_)
  clear hK K hs hd zl
  intro a hs hd zl
  refine tail_op rfl (fun K hK => ?_)
  have q48 := gL zl 0
  go_simp
  refine (c_below twist 10 _ htw (by decide)).mono ?_
  rintro e w3 ⟨rfl, hw3⟩
  obtain rfl := hw3
  rw [htw2.out]
  clear q48
  refine hK _ _ (tP hs hd zl ?_)
  clear hK K hs hd zl
  intro a hs hd zl
  clear htw2
  refine wp_block ?_
  by_cases h0 : tw = 0
  ·have t0 : (tw == 0) = true := by rw [beq_iff_eq]; exact h0
   refine wp_seq ?_
   refine wp_region_list ?_
   show wpList _ _ _ [_, _] _ _
   refine tail_op rfl (fun K hK => ?_)
   have q49 := gL zl 0
   go_simp
   clear q49
   refine hK _ _ (tP hs hd zl ?_)
   clear hK K hs hd zl
   intro a hs hd zl
   refine tail_op rfl (fun K hK => ?_)
   have q51 := gL zl 0
   go_simp
   clear q51
   refine hK _ _ (tP hs hd zl ?_)
   clear hK K hs hd zl
   intro a hs hd zl
   refine wp_cond_true (vL zl 0) ?_
   refine wp_region_list ?_
   show wpList _ _ _ [_, _, _, _, _] _ _
   refine tail_op rfl (fun K hK => ?_)
   have q3 := gL zl 7
   go_simp
   clear q3
   refine hK _ _ (tP hs hd zl ?_)
   clear hK K hs hd zl
   intro a hs hd zl
   refine tail_op rfl (fun K hK => ?_)
   have q52 := gL zl 0
   go_simp
   refine (c_specSum At ct tx _ (hTx.after hB) ht8 (by have := HTL.out; omega)).mono ?_
   intro e w4 h
   obtain ⟨v, rfl, hv, hb2⟩ := h.at0
   clear q52
   refine hK _ _ (tP hs hd zl ?_)
   clear hK K hs hd zl
   intro a hs hd zl
   replace hB := bz_then hB hb2
   replace hg := hg.after hb2
   replace hj := hj.after hb2
   replace hHk := hHk.after hb2
   replace hJk := hJk.after hb2
   obtain ⟨s, rfl, hso, hsl⟩ := hv.sl (sha_bytes _) (by rw [shaN]; decide)
   have hs32 : Kept (s.l.length = 32) := Is.hid (by rw [hsl.out, shaN])
   obtain ⟨s53, s52, s50, -, s49, -, -, -, -, s3, s10, s11, -, -, -, -⟩ := zl
   unfold HSl.v at s53
   clear hb2 hsl
   refine tail_op rfl (fun K hK => ?_)
   have q11 := gd s11
   go_simp
   clear q11
   refine hK _ _ ?_
   clear hK K
   refine act_put (d := 54) _ hs hd (by decide) [(3, _), (10, _), (11, _), (49, _), (50, _), (52, _), (53, _)] ⟨s3, s10, s11, s49, s50, s52, s53, trivial⟩ rfl ?_
   clear hs hd s3 s10 s11 s49 s50 s52 s53
   intro a hs hd zl
   refine tail_op rfl (fun K hK => ?_)
   have q54 := gL zl 0
   go_simp
   clear q54
   refine hK _ _ (tP hs hd zl ?_)
   clear hK K hs hd zl
   intro a hs hd zl
   refine tail_op rfl (fun K hK => ?_)
   have q53 := gL zl 8
   have q55 := gL zl 0
   have cz : w4.cell? ⟨j, 6, none⟩ = some (J2.bh.v) := by rw [hj.cell]; rfl
   unfold HSl.v at cz
   have fz : w4.frozen? ⟨j, 6, none⟩ = false := hj.free _
   go_simp
   clear q53 q55
   refine hK _ _ ?_
   clear hK K
   change wpList _ _ _ _ a _
   have hgs := gb1 w4 j 6 (.slice s.A s.l.length s.c)
   have hj2 : Blk (World.setCell w4 ⟨j, 6, none⟩ (.slice s.A s.l.length s.c)) j 33 ({J2 with bh := s} : Hd).cells := by
    have h := Blk.set_ hj 6 s.v
    rw [Hd.set6] at h
    exact h
   replace hB := Below.setCell hB (p := ⟨j, 6, none⟩) hBj (.slice s.A s.l.length s.c)
   replace hHk := hHk.hd hHf hj hgs
   have hJk2 : ({J2 with bh := s} : Hd).ok _ := ⟨hso.hd hs32.out hj hgs, hJk.bp.hd hJf.bp hj hgs, fun i hi => (hJk.hh i hi).hd (hJf.hh i hi) hj hgs⟩
   have hJf2 : ({J2 with bh := s} : Hd).full := ⟨hs32.out, hJf.bp, hJf.hh⟩
   have hJn2 : ({J2 with bh := s} : Hd).num := ⟨hJn.vb, hJn.va, hJn.ht, hJn.sec, hJn.ns, hJn.bt, hJn.ch, hJn.pr⟩
   replace hg := hg.gbfar hgs hgj.symm
   obtain ⟨J3, hJ2⟩ : ∃ J3, Is ({J2 with bh := s} : Hd) J3 := is_self _
   rw [hJ2.out] at hj2 hJk2 hJf2 hJn2
   clear hj hJk hJf hJn hJ2 hso hs32
   have hj := hj2
   have hJk := hJk2
   have hJf := hJf2
   have hJn := hJn2
   clear hj2 hJk2 hJf2 hJn2
   clear hgs cz fz
   generalize World.setCell w4 _ _ = w5 at hB hg hj hHk hJk ⊢
   refine wp_seq ?_
   refine fl2 [.eq 86 (.agg H.cells), .eq 87 (.agg J3.cells), .eq 88 (.bool (backB H J3)), .eq 89 (.agg H.cells), .eq 90 (.agg H.cells), .eq 91 (.agg J3.cells), .eq 92 (.agg J3.cells), .eq 93 (.bool (backB H J3))] 8 hs hd zl
    ⟨(stp rfl fun a u hb hs hl hd K hK => by
      have s10 := gL hl 3
      clear hd
      refine op_load_row 33 (.tmp 10) rfl g (gu s10) _ _ _ (hg.after hb) rfl rfl (by kernel_rfl) ?_
      exact kE hK hs),
     (stp rfl fun a u hb hs hl hd K hK => by
      have s11 := gL hl 4
      clear hd
      refine op_load_row 33 (.tmp 11) rfl j (gu s11) _ _ _ (hj.after hb) rfl rfl (by kernel_rfl) ?_
      exact kE hK hs),
     (stp rfl fun a u hb hs hl hd K hK => by
      have s86 := gD hd 0
      have s87 := gD hd 1
      clear hd
      go_simp
      refine (c_iBack H J3 _ hHn hJn (hHk.after hb) (hJk.after hb) hHt hHf.sized hHf.ne (hKt.after (bz_then hB hb))).mono ?_
      rintro e w3 ⟨rfl, hb2⟩
      exact hK _ _ hb2 (eq_put hs (by decide))),
     (stp rfl fun a u hb hs hl hd K hK => by
      have s10 := gL hl 3
      clear hd
      refine op_load_row 33 (.tmp 10) rfl g (gu s10) _ _ _ (hg.after hb) rfl rfl (by kernel_rfl) ?_
      exact kE hK hs),
     (stp rfl fun a u hb hs hl hd K hK => by
      have s89 := gD hd 3
      clear hd
      go_simp
      refine (c_lheader H _).mono ?_
      rintro e w3 ⟨rfl, hb2⟩
      exact hK _ _ hb2 (eq_put hs (by decide))),
     (stp rfl fun a u hb hs hl hd K hK => by
      have s11 := gL hl 4
      clear hd
      refine op_load_row 33 (.tmp 11) rfl j (gu s11) _ _ _ (hj.after hb) rfl rfl (by kernel_rfl) ?_
      exact kE hK hs),
     (stp rfl fun a u hb hs hl hd K hK => by
      have s91 := gD hd 5
      clear hd
      go_simp
      refine (c_lheader J3 _).mono ?_
      rintro e w3 ⟨rfl, hb2⟩
      exact hK _ _ hb2 (eq_put hs (by decide))),
     (stp rfl fun a u hb hs hl hd K hK => by
      have s90 := gD hd 4
      have s92 := gD hd 6
      clear hd
      go_simp
      refine (c_sBack H J3 _ hHn (hHk.after hb) (hJk.after hb) hHt hHf.sized hHf.ne).mono ?_
      rintro e w3 ⟨rfl, hb2⟩
      exact hK _ _ hb2 (eq_put hs (by decide))),
     trivial⟩ ?_
   clear hs hd zl
   intro a w hb hs hd zl hh
   replace zl := lH hh 2 zl
   replace zl := lH hh 7 zl
   clear hh
   replace hg := hg.after hb
   replace hj := hj.after hb
   replace hB := bz_then hB hb
   clear hb
   show wpList _ _ _ [_, _] _ _
   refine tail_op rfl (fun K hK => ?_)
   have q88 := gL zl 1
   have q93 := gL zl 0
   have hbb : (backB H J3 == backB H J3) = true := beq_self_eq_true _
   go_simp
   clear q88 q93
   refine hK _ _ (tP hs hd zl ?_)
   clear hK K hs hd zl
   intro a hs hd zl
   refine tail_op rfl (fun K hK => ?_)
   have q94 := gL zl 0
   go_simp
   clear q94
   refine hK _ _ (tP hs hd zl ?_)
   clear hK K hs hd zl
   intro a hs hd zl
   refine wp_ret ?_
   exact end_tmp rfl hd (vL zl 0) ⟨rfl, hB⟩
  have t0 : (tw == 0) = false := by rw [beq_eq_false_iff_ne]; exact h0
  refine wp_seq ?_
  refine wp_region_list ?_
  show wpList _ _ _ [_, _] _ _
  refine tail_op rfl (fun K hK => ?_)
  have q49 := gL zl 0
  go_simp
  clear q49
  refine hK _ _ (tP hs hd zl ?_)
  clear hK K hs hd zl
  intro a hs hd zl
  refine tail_op rfl (fun K hK => ?_)
  have q51 := gL zl 0
  go_simp
  clear q51
  refine hK _ _ (tP hs hd zl ?_)
  clear hK K hs hd zl
  intro a hs hd zl
  refine wp_cond_false (vL zl 0) ?_
  by_cases h1 : tw = 1
  ·have t1 : (tw == 1) = true := by rw [beq_iff_eq]; exact h1
   refine wp_seq ?_
   refine wp_region_list ?_
   show wpList _ _ _ [_, _] _ _
   refine tail_op rfl (fun K hK => ?_)
   have q49 := gL zl 2
   go_simp
   clear q49
   refine hK _ _ (tP hs hd zl ?_)
   clear hK K hs hd zl
   intro a hs hd zl
   refine tail_op rfl (fun K hK => ?_)
   have q57 := gL zl 0
   go_simp
   clear q57
   refine hK _ _ (tP hs hd zl ?_)
   clear hK K hs hd zl
   intro a hs hd zl
   refine wp_cond_true (vL zl 0) ?_
   refine wp_seq ?_
   refine wp_region_list ?_
   show wpList _ _ _ [_, _, _, _] _ _
   refine tail_op rfl (fun K hK => ?_)
   have q3 := gL zl 9
   go_simp
   clear q3
   refine hK _ _ (tP hs hd zl ?_)
   clear hK K hs hd zl
   intro a hs hd zl
   refine tail_op rfl (fun K hK => ?_)
   have q58 := gL zl 0
   have kc := run_conv_any hTxf (hTx.after hB) 23 9 Tryd.underlying23 Tryd.underlying9
   obtain ⟨st, hst⟩ : ∃ s, Is (strOfNums tx) s := is_self _
   have hstn : st.size ≤ 1000000000 := by rw [← hst.out, str_size]; have := HTL.out; omega
   rw [hst.out] at kc
   go_simp
   clear q58
   refine hK _ _ (tP hs hd zl ?_)
   clear hK K hs hd zl
   intro a hs hd zl
   refine tail_op rfl (fun K hK => ?_)
   have q10 := gL zl 12
   go_simp
   clear q10
   refine hK _ _ (tP hs hd zl ?_)
   clear hK K hs hd zl
   intro a hs hd zl
   refine tail_op rfl (fun K hK => ?_)
   have q59 := gL zl 1
   have q60 := gL zl 0
   have cz : w5.cell? ⟨g, 2, none⟩ = some (.string H.ch) := by rw [hg.cell]; rfl
   have fz : w5.frozen? ⟨g, 2, none⟩ = false := hg.free _
   go_simp
   clear q59 q60
   refine hK _ _ ?_
   clear hK K
   change wpList _ _ _ _ a _
   have hgs := gb1 w5 g 2 (.string st)
   have hg2 : Blk (World.setCell w5 ⟨g, 2, none⟩ (.string st)) g 33 ({H with ch := st} : Hd).cells := by
    have h := Blk.set_ hg 2 (.string st)
    rw [Hd.set2] at h
    exact h
   replace hB := Below.setCell hB (p := ⟨g, 2, none⟩) hBg0 (.string st)
   replace hJk := hJk.hd hJf hg hgs
   have hHk0 := hHk.hd hHf hg hgs
   have hHk2 : ({H with ch := st} : Hd).ok _ := ⟨hHk0.bh, hHk0.bp, hHk0.hh⟩
   have hHf2 : ({H with ch := st} : Hd).full := ⟨hHf.bh, hHf.bp, hHf.hh⟩
   have hHn2 : ({H with ch := st} : Hd).num := ⟨hHn.vb, hHn.va, hHn.ht, hHn.sec, hHn.ns, hHn.bt, hstn, hHn.pr⟩
   have hHt2 : 0 < ({H with ch := st} : Hd).ht := hHt
   replace hj := hj.gbfar hgs hgj
   obtain ⟨H2, hH2⟩ : ∃ H2, Is ({H with ch := st} : Hd) H2 := is_self _
   rw [hH2.out] at hg2 hHk2 hHf2 hHn2 hHt2
   clear hg hHk hHk0 hHf hHn hHt hH2
   have hg := hg2
   have hHk := hHk2
   have hHf := hHf2
   have hHn := hHn2
   have hHt := hHt2
   clear hg2 hHk2 hHf2 hHn2 hHt2
   clear hgs cz fz
   generalize World.setCell w5 _ _ = w6 at hB hg hj hHk hJk ⊢
   refine wp_region_list ?_
   show wpList _ _ _ [_, _, _, _, _, _] _ _
   refine tail_op rfl (fun K hK => ?_)
   have q10 := gL zl 13
   have s10 := vL zl 13
   refine op_load_row 33 (.tmp 10) rfl g s10 _ _ _ hg rfl rfl (by kernel_rfl) ?_
   clear q10
   refine hK _ _ (tP hs hd zl ?_)
   clear hK K hs hd zl s10
   intro a hs hd zl
   refine tail_op rfl (fun K hK => ?_)
   have q61 := gL zl 0
   go_simp
   refine (c_lheader H2 _).mono ?_
   rintro e w3 ⟨rfl, hb2⟩
   clear q61
   refine hK _ _ (tP hs hd zl ?_)
   clear hK K hs hd zl
   intro a hs hd zl
   replace hB := bz_then hB hb2
   replace hg := hg.after hb2
   replace hj := hj.after hb2
   replace hHk := hHk.after hb2
   replace hJk := hJk.after hb2
   clear hb2
   refine tail_op rfl (fun K hK => ?_)
   have q62 := gL zl 0
   go_simp
   refine (c_HeaderSum H2 _ hHn hHk hHf.ne).mono ?_
   rintro e w4 ⟨v, rfl, hv, hb2⟩
   clear q62
   refine hK _ _ (tP hs hd zl ?_)
   clear hK K hs hd zl
   intro a hs hd zl
   replace hB := bz_then hB hb2
   replace hg := hg.after hb2
   replace hj := hj.after hb2
   replace hHk := hHk.after hb2
   replace hJk := hJk.after hb2
   obtain ⟨s, rfl, hso, hsl⟩ := hv.sl (rootN_bytes _ _) (by rw [rootN_len]; decide)
   have hs32 : Kept (s.l.length = 32) := Is.hid (by rw [hsl.out, rootN_len])
   obtain ⟨s63, s62, s61, -, -, -, -, -, -, -, -, -, -, -, -, -, s10, s11, -, -, -, -⟩ := zl
   unfold HSl.v at s63
   clear hb2 hsl
   refine tail_op rfl (fun K hK => ?_)
   have q11 := gd s11
   go_simp
   clear q11
   refine hK _ _ ?_
   clear hK K
   refine act_put (d := 64) _ hs hd (by decide) [(10, _), (11, _), (61, _), (62, _), (63, _)] ⟨s10, s11, s61, s62, s63, trivial⟩ rfl ?_
   clear hs hd s10 s11 s61 s62 s63
   intro a hs hd zl
   refine tail_op rfl (fun K hK => ?_)
   have q64 := gL zl 0
   go_simp
   clear q64
   refine hK _ _ (tP hs hd zl ?_)
   clear hK K hs hd zl
   intro a hs hd zl
   refine tail_op rfl (fun K hK => ?_)
   have q63 := gL zl 6
   have q65 := gL zl 0
   have cz : w4.cell? ⟨j, 6, none⟩ = some (J2.bh.v) := by rw [hj.cell]; rfl
   unfold HSl.v at cz
   have fz : w4.frozen? ⟨j, 6, none⟩ = false := hj.free _
   go_simp
   clear q63 q65
   refine hK _ _ ?_
   clear hK K
   change wpList _ _ _ _ a _
   have hgs := gb1 w4 j 6 (.slice s.A s.l.length s.c)
   have hj2 : Blk (World.setCell w4 ⟨j, 6, none⟩ (.slice s.A s.l.length s.c)) j 33 ({J2 with bh := s} : Hd).cells := by
    have h := Blk.set_ hj 6 s.v
    rw [Hd.set6] at h
    exact h
   replace hB := Below.setCell hB (p := ⟨j, 6, none⟩) hBj (.slice s.A s.l.length s.c)
   replace hHk := hHk.hd hHf hj hgs
   have hJk2 : ({J2 with bh := s} : Hd).ok _ := ⟨hso.hd hs32.out hj hgs, hJk.bp.hd hJf.bp hj hgs, fun i hi => (hJk.hh i hi).hd (hJf.hh i hi) hj hgs⟩
   have hJf2 : ({J2 with bh := s} : Hd).full := ⟨hs32.out, hJf.bp, hJf.hh⟩
   have hJn2 : ({J2 with bh := s} : Hd).num := ⟨hJn.vb, hJn.va, hJn.ht, hJn.sec, hJn.ns, hJn.bt, hJn.ch, hJn.pr⟩
   replace hg := hg.gbfar hgs hgj.symm
   obtain ⟨J3, hJ2⟩ : ∃ J3, Is ({J2 with bh := s} : Hd) J3 := is_self _
   rw [hJ2.out] at hj2 hJk2 hJf2 hJn2
   clear hj hJk hJf hJn hJ2 hso hs32
   have hj := hj2
   have hJk := hJk2
   have hJf := hJf2
   have hJn := hJn2
   clear hj2 hJk2 hJf2 hJn2
   clear hgs cz fz
   generalize World.setCell w4 _ _ = w5 at hB hg hj hHk hJk ⊢
   refine wp_seq ?_
   refine fl2 [.eq 86 (.agg H2.cells), .eq 87 (.agg J3.cells), .eq 88 (.bool (backB H2 J3)), .eq 89 (.agg H2.cells), .eq 90 (.agg H2.cells), .eq 91 (.agg J3.cells), .eq 92 (.agg J3.cells), .eq 93 (.bool (backB H2 J3))] 8 hs hd zl
    ⟨(stp rfl fun a u hb hs hl hd K hK => by
      have s10 := gL hl 2
      clear hd
      refine op_load_row 33 (.tmp 10) rfl g (gu s10) _ _ _ (hg.after hb) rfl rfl (by kernel_rfl) ?_
      exact kE hK hs),
     (stp rfl fun a u hb hs hl hd K hK => by
      have s11 := gL hl 3
      clear hd
      refine op_load_row 33 (.tmp 11) rfl j (gu s11) _ _ _ (hj.after hb) rfl rfl (by kernel_rfl) ?_
      exact kE hK hs),
     (stp rfl fun a u hb hs hl hd K hK => by
      have s86 := gD hd 0
      have s87 := gD hd 1
      clear hd
      go_simp
      refine (c_iBack H2 J3 _ hHn hJn (hHk.after hb) (hJk.after hb) hHt hHf.sized hHf.ne (hKt.after (bz_then hB hb))).mono ?_
      rintro e w3 ⟨rfl, hb2⟩
      exact hK _ _ hb2 (eq_put hs (by decide))),
     (stp rfl fun a u hb hs hl hd K hK => by
      have s10 := gL hl 2
      clear hd
      refine op_load_row 33 (.tmp 10) rfl g (gu s10) _ _ _ (hg.after hb) rfl rfl (by kernel_rfl) ?_
      exact kE hK hs),
     (stp rfl fun a u hb hs hl hd K hK => by
      have s89 := gD hd 3
      clear hd
      go_simp
      refine (c_lheader H2 _).mono ?_
      rintro e w3 ⟨rfl, hb2⟩
      exact hK _ _ hb2 (eq_put hs (by decide))),
     (stp rfl fun a u hb hs hl hd K hK => by
      have s11 := gL hl 3
      clear hd
      refine op_load_row 33 (.tmp 11) rfl j (gu s11) _ _ _ (hj.after hb) rfl rfl (by kernel_rfl) ?_
      exact kE hK hs),
     (stp rfl fun a u hb hs hl hd K hK => by
      have s91 := gD hd 5
      clear hd
      go_simp
      refine (c_lheader J3 _).mono ?_
      rintro e w3 ⟨rfl, hb2⟩
      exact hK _ _ hb2 (eq_put hs (by decide))),
     (stp rfl fun a u hb hs hl hd K hK => by
      have s90 := gD hd 4
      have s92 := gD hd 6
      clear hd
      go_simp
      refine (c_sBack H2 J3 _ hHn (hHk.after hb) (hJk.after hb) hHt hHf.sized hHf.ne).mono ?_
      rintro e w3 ⟨rfl, hb2⟩
      exact hK _ _ hb2 (eq_put hs (by decide))),
     trivial⟩ ?_
   clear hs hd zl
   intro a w hb hs hd zl hh
   replace zl := lH hh 2 zl
   replace zl := lH hh 7 zl
   clear hh
   replace hg := hg.after hb
   replace hj := hj.after hb
   replace hB := bz_then hB hb
   clear hb
   show wpList _ _ _ [_, _] _ _
   refine tail_op rfl (fun K hK => ?_)
   have q88 := gL zl 1
   have q93 := gL zl 0
   have hbb : (backB H2 J3 == backB H2 J3) = true := beq_self_eq_true _
   go_simp
   clear q88 q93
   refine hK _ _ (tP hs hd zl ?_)
   clear hK K hs hd zl
   intro a hs hd zl
   refine tail_op rfl (fun K hK => ?_)
   have q94 := gL zl 0
   go_simp
   clear q94
   refine hK _ _ (tP hs hd zl ?_)
   clear hK K hs hd zl
   intro a hs hd zl
   refine wp_ret ?_
   exact end_tmp rfl hd (vL zl 0) ⟨rfl, hB⟩
  have t1 : (tw == 1) = false := by rw [beq_eq_false_iff_ne]; exact h1
  refine wp_seq ?_
  refine wp_region_list ?_
  show wpList _ _ _ [_, _] _ _
  refine tail_op rfl (fun K hK => ?_)
  have q49 := gL zl 2
  go_simp
  clear q49
  refine hK _ _ (tP hs hd zl ?_)
  clear hK K hs hd zl
  intro a hs hd zl
  refine tail_op rfl (fun K hK => ?_)
  have q57 := gL zl 0
  go_simp
  clear q57
  refine hK _ _ (tP hs hd zl ?_)
  clear hK K hs hd zl
  intro a hs hd zl
  refine wp_cond_false (vL zl 0) ?_
  by_cases h2 : tw = 2
  ·have t2 : (tw == 2) = true := by rw [beq_iff_eq]; exact h2
   refine wp_seq ?_
   refine wp_region_list ?_
   show wpList _ _ _ [_, _] _ _
   refine tail_op rfl (fun K hK => ?_)
   have q49 := gL zl 4
   go_simp
   clear q49
   refine hK _ _ (tP hs hd zl ?_)
   clear hK K hs hd zl
   intro a hs hd zl
   refine tail_op rfl (fun K hK => ?_)
   have q67 := gL zl 0
   go_simp
   clear q67
   refine hK _ _ (tP hs hd zl ?_)
   clear hK K hs hd zl
   intro a hs hd zl
   refine wp_cond_true (vL zl 0) ?_
   refine wp_seq ?_
   refine wp_region_list ?_
   show wpList _ _ _ [_, _, _, _] _ _
   refine tail_op rfl (fun K hK => ?_)
   have q3 := gL zl 11
   go_simp
   clear q3
   refine hK _ _ (tP hs hd zl ?_)
   clear hK K hs hd zl
   intro a hs hd zl
   refine tail_op rfl (fun K hK => ?_)
   have q68 := gL zl 0
   go_simp
   clear q68
   refine hK _ _ (tP hs hd zl ?_)
   clear hK K hs hd zl
   intro a hs hd zl
   refine tail_op rfl (fun K hK => ?_)
   have q10 := gL zl 14
   go_simp
   clear q10
   refine hK _ _ (tP hs hd zl ?_)
   clear hK K hs hd zl
   intro a hs hd zl
   refine tail_op rfl (fun K hK => ?_)
   have q69 := gL zl 1
   have q70 := gL zl 0
   have cz : w5.cell? ⟨g, 0, none⟩ = some (.int .i64 H.vb) := by rw [hg.cell]; rfl
   have fz : w5.frozen? ⟨g, 0, none⟩ = false := hg.free _
   go_simp
   clear q69 q70
   refine hK _ _ ?_
   clear hK K
   change wpList _ _ _ _ a _
   have hgs := gb1 w5 g 0 (.int .i64 ((tx.length : Nat) : Int))
   have hg2 : Blk (World.setCell w5 ⟨g, 0, none⟩ (.int .i64 ((tx.length : Nat) : Int))) g 33 ({H with vb := ((tx.length : Nat) : Int)} : Hd).cells := by
    have h := Blk.set_ hg 0 (.int .i64 ((tx.length : Nat) : Int))
    rw [Hd.set0] at h
    exact h
   replace hB := Below.setCell hB (p := ⟨g, 0, none⟩) hBg0 (.int .i64 ((tx.length : Nat) : Int))
   replace hJk := hJk.hd hJf hg hgs
   have hHk0 := hHk.hd hHf hg hgs
   have hHk2 : ({H with vb := ((tx.length : Nat) : Int)} : Hd).ok _ := ⟨hHk0.bh, hHk0.bp, hHk0.hh⟩
   have hHf2 : ({H with vb := ((tx.length : Nat) : Int)} : Hd).full := ⟨hHf.bh, hHf.bp, hHf.hh⟩
   have hHn2 : ({H with vb := ((tx.length : Nat) : Int)} : Hd).num := ⟨⟨Int.natCast_nonneg _, by have := HTL.out; show ((tx.length : Nat) : Int) ≤ _; omega⟩, hHn.va, hHn.ht, hHn.sec, hHn.ns, hHn.bt, hHn.ch, hHn.pr⟩
   have hHt2 : 0 < ({H with vb := ((tx.length : Nat) : Int)} : Hd).ht := hHt
   replace hj := hj.gbfar hgs hgj
   obtain ⟨H2, hH2⟩ : ∃ H2, Is ({H with vb := ((tx.length : Nat) : Int)} : Hd) H2 := is_self _
   rw [hH2.out] at hg2 hHk2 hHf2 hHn2 hHt2
   clear hg hHk hHk0 hHf hHn hHt hH2
   have hg := hg2
   have hHk := hHk2
   have hHf := hHf2
   have hHn := hHn2
   have hHt := hHt2
   clear hg2 hHk2 hHf2 hHn2 hHt2
   clear hgs cz fz
   generalize World.setCell w5 _ _ = w6 at hB hg hj hHk hJk ⊢
   refine wp_region_list ?_
   show wpList _ _ _ [_, _, _, _, _, _] _ _
   refine tail_op rfl (fun K hK => ?_)
   have q10 := gL zl 15
   have s10 := vL zl 15
   refine op_load_row 33 (.tmp 10) rfl g s10 _ _ _ hg rfl rfl (by kernel_rfl) ?_
   clear q10
   refine hK _ _ (tP hs hd zl ?_)
   clear hK K hs hd zl s10
   intro a hs hd zl
   refine tail_op rfl (fun K hK => ?_)
   have q71 := gL zl 0
   go_simp
   refine (c_lheader H2 _).mono ?_
   rintro e w3 ⟨rfl, hb2⟩
   clear q71
   refine hK _ _ (tP hs hd zl ?_)
   clear hK K hs hd zl
   intro a hs hd zl
   replace hB := bz_then hB hb2
   replace hg := hg.after hb2
   replace hj := hj.after hb2
   replace hHk := hHk.after hb2
   replace hJk := hJk.after hb2
   clear hb2
   refine tail_op rfl (fun K hK => ?_)
   have q72 := gL zl 0
   go_simp
   refine (c_HeaderSum H2 _ hHn hHk hHf.ne).mono ?_
   rintro e w4 ⟨v, rfl, hv, hb2⟩
   clear q72
   refine hK _ _ (tP hs hd zl ?_)
   clear hK K hs hd zl
   intro a hs hd zl
   replace hB := bz_then hB hb2
   replace hg := hg.after hb2
   replace hj := hj.after hb2
   replace hHk := hHk.after hb2
   replace hJk := hJk.after hb2
   obtain ⟨s, rfl, hso, hsl⟩ := hv.sl (rootN_bytes _ _) (by rw [rootN_len]; decide)
   have hs32 : Kept (s.l.length = 32) := Is.hid (by rw [hsl.out, rootN_len])
   obtain ⟨s73, s72, s71, -, -, -, -, -, -, -, -, -, -, -, -, -, -, -, s10, s11, -, -, -, -⟩ := zl
   unfold HSl.v at s73
   clear hb2 hsl
   refine tail_op rfl (fun K hK => ?_)
   have q11 := gd s11
   go_simp
   clear q11
   refine hK _ _ ?_
   clear hK K
   refine act_put (d := 74) _ hs hd (by decide) [(10, _), (11, _), (71, _), (72, _), (73, _)] ⟨s10, s11, s71, s72, s73, trivial⟩ rfl ?_
   clear hs hd s10 s11 s71 s72 s73
   intro a hs hd zl
   refine tail_op rfl (fun K hK => ?_)
   have q74 := gL zl 0
   go_simp
   clear q74
   refine hK _ _ (tP hs hd zl ?_)
   clear hK K hs hd zl
   intro a hs hd zl
   refine tail_op rfl (fun K hK => ?_)
   have q73 := gL zl 6
   have q75 := gL zl 0
   have cz : w4.cell? ⟨j, 6, none⟩ = some (J2.bh.v) := by rw [hj.cell]; rfl
   unfold HSl.v at cz
   have fz : w4.frozen? ⟨j, 6, none⟩ = false := hj.free _
   go_simp
   clear q73 q75
   refine hK _ _ ?_
   clear hK K
   change wpList _ _ _ _ a _
   have hgs := gb1 w4 j 6 (.slice s.A s.l.length s.c)
   have hj2 : Blk (World.setCell w4 ⟨j, 6, none⟩ (.slice s.A s.l.length s.c)) j 33 ({J2 with bh := s} : Hd).cells := by
    have h := Blk.set_ hj 6 s.v
    rw [Hd.set6] at h
    exact h
   replace hB := Below.setCell hB (p := ⟨j, 6, none⟩) hBj (.slice s.A s.l.length s.c)
   replace hHk := hHk.hd hHf hj hgs
   have hJk2 : ({J2 with bh := s} : Hd).ok _ := ⟨hso.hd hs32.out hj hgs, hJk.bp.hd hJf.bp hj hgs, fun i hi => (hJk.hh i hi).hd (hJf.hh i hi) hj hgs⟩
   have hJf2 : ({J2 with bh := s} : Hd).full := ⟨hs32.out, hJf.bp, hJf.hh⟩
   have hJn2 : ({J2 with bh := s} : Hd).num := ⟨hJn.vb, hJn.va, hJn.ht, hJn.sec, hJn.ns, hJn.bt, hJn.ch, hJn.pr⟩
   replace hg := hg.gbfar hgs hgj.symm
   obtain ⟨J3, hJ2⟩ : ∃ J3, Is ({J2 with bh := s} : Hd) J3 := is_self _
   rw [hJ2.out] at hj2 hJk2 hJf2 hJn2
   clear hj hJk hJf hJn hJ2 hso hs32
   have hj := hj2
   have hJk := hJk2
   have hJf := hJf2
   have hJn := hJn2
   clear hj2 hJk2 hJf2 hJn2
   clear hgs cz fz
   generalize World.setCell w4 _ _ = w5 at hB hg hj hHk hJk ⊢
   refine wp_seq ?_
   refine fl2 [.eq 86 (.agg H2.cells), .eq 87 (.agg J3.cells), .eq 88 (.bool (backB H2 J3)), .eq 89 (.agg H2.cells), .eq 90 (.agg H2.cells), .eq 91 (.agg J3.cells), .eq 92 (.agg J3.cells), .eq 93 (.bool (backB H2 J3))] 8 hs hd zl
    ⟨(stp rfl fun a u hb hs hl hd K hK => by
      have s10 := gL hl 2
      clear hd
      refine op_load_row 33 (.tmp 10) rfl g (gu s10) _ _ _ (hg.after hb) rfl rfl (by kernel_rfl) ?_
      exact kE hK hs),
     (stp rfl fun a u hb hs hl hd K hK => by
      have s11 := gL hl 3
      clear hd
      refine op_load_row 33 (.tmp 11) rfl j (gu s11) _ _ _ (hj.after hb) rfl rfl (by kernel_rfl) ?_
      exact kE hK hs),
     (stp rfl fun a u hb hs hl hd K hK => by
      have s86 := gD hd 0
      have s87 := gD hd 1
      clear hd
      go_simp
      refine (c_iBack H2 J3 _ hHn hJn (hHk.after hb) (hJk.after hb) hHt hHf.sized hHf.ne (hKt.after (bz_then hB hb))).mono ?_
      rintro e w3 ⟨rfl, hb2⟩
      exact hK _ _ hb2 (eq_put hs (by decide))),
     (stp rfl fun a u hb hs hl hd K hK => by
      have s10 := gL hl 2
      clear hd
      refine op_load_row 33 (.tmp 10) rfl g (gu s10) _ _ _ (hg.after hb) rfl rfl (by kernel_rfl) ?_
      exact kE hK hs),
     (stp rfl fun a u hb hs hl hd K hK => by
      have s89 := gD hd 3
      clear hd
      go_simp
      refine (c_lheader H2 _).mono ?_
      rintro e w3 ⟨rfl, hb2⟩
      exact hK _ _ hb2 (eq_put hs (by decide))),
     (stp rfl fun a u hb hs hl hd K hK => by
      have s11 := gL hl 3
      clear hd
      refine op_load_row 33 (.tmp 11) rfl j (gu s11) _ _ _ (hj.after hb) rfl rfl (by kernel_rfl) ?_
      exact kE hK hs),
     (stp rfl fun a u hb hs hl hd K hK => by
      have s91 := gD hd 5
      clear hd
      go_simp
      refine (c_lheader J3 _).mono ?_
      rintro e w3 ⟨rfl, hb2⟩
      exact hK _ _ hb2 (eq_put hs (by decide))),
     (stp rfl fun a u hb hs hl hd K hK => by
      have s90 := gD hd 4
      have s92 := gD hd 6
      clear hd
      go_simp
      refine (c_sBack H2 J3 _ hHn (hHk.after hb) (hJk.after hb) hHt hHf.sized hHf.ne).mono ?_
      rintro e w3 ⟨rfl, hb2⟩
      exact hK _ _ hb2 (eq_put hs (by decide))),
     trivial⟩ ?_
   clear hs hd zl
   intro a w hb hs hd zl hh
   replace zl := lH hh 2 zl
   replace zl := lH hh 7 zl
   clear hh
   replace hg := hg.after hb
   replace hj := hj.after hb
   replace hB := bz_then hB hb
   clear hb
   show wpList _ _ _ [_, _] _ _
   refine tail_op rfl (fun K hK => ?_)
   have q88 := gL zl 1
   have q93 := gL zl 0
   have hbb : (backB H2 J3 == backB H2 J3) = true := beq_self_eq_true _
   go_simp
   clear q88 q93
   refine hK _ _ (tP hs hd zl ?_)
   clear hK K hs hd zl
   intro a hs hd zl
   refine tail_op rfl (fun K hK => ?_)
   have q94 := gL zl 0
   go_simp
   clear q94
   refine hK _ _ (tP hs hd zl ?_)
   clear hK K hs hd zl
   intro a hs hd zl
   refine wp_ret ?_
   exact end_tmp rfl hd (vL zl 0) ⟨rfl, hB⟩
  have t2 : (tw == 2) = false := by rw [beq_eq_false_iff_ne]; exact h2
  refine wp_seq ?_
  refine wp_region_list ?_
  show wpList _ _ _ [_, _] _ _
  refine tail_op rfl (fun K hK => ?_)
  have q49 := gL zl 4
  go_simp
  clear q49
  refine hK _ _ (tP hs hd zl ?_)
  clear hK K hs hd zl
  intro a hs hd zl
  refine tail_op rfl (fun K hK => ?_)
  have q67 := gL zl 0
  go_simp
  clear q67
  refine hK _ _ (tP hs hd zl ?_)
  clear hK K hs hd zl
  intro a hs hd zl
  refine wp_cond_false (vL zl 0) ?_
  by_cases h3 : tw = 3
  ·have t3 : (tw == 3) = true := by rw [beq_iff_eq]; exact h3
   refine wp_seq ?_
   refine wp_region_list ?_
   show wpList _ _ _ [_, _] _ _
   refine tail_op rfl (fun K hK => ?_)
   have q49 := gL zl 6
   go_simp
   clear q49
   refine hK _ _ (tP hs hd zl ?_)
   clear hK K hs hd zl
   intro a hs hd zl
   refine tail_op rfl (fun K hK => ?_)
   have q77 := gL zl 0
   go_simp
   clear q77
   refine hK _ _ (tP hs hd zl ?_)
   clear hK K hs hd zl
   intro a hs hd zl
   refine wp_cond_true (vL zl 0) ?_
   refine wp_seq ?_
   refine wp_region_list ?_
   show wpList _ _ _ [_, _, _, _] _ _
   refine tail_op rfl (fun K hK => ?_)
   have q3 := gL zl 13
   go_simp
   clear q3
   refine hK _ _ (tP hs hd zl ?_)
   clear hK K hs hd zl
   intro a hs hd zl
   refine tail_op rfl (fun K hK => ?_)
   have q78 := gL zl 0
   have kc := run_conv_any hTxf (hTx.after hB) 23 9 Tryd.underlying23 Tryd.underlying9
   obtain ⟨st, hst⟩ : ∃ s, Is (strOfNums tx) s := is_self _
   have hstn : st.size ≤ 1000000000 := by rw [← hst.out, str_size]; have := HTL.out; omega
   rw [hst.out] at kc
   go_simp
   clear q78
   refine hK _ _ (tP hs hd zl ?_)
   clear hK K hs hd zl
   intro a hs hd zl
   refine tail_op rfl (fun K hK => ?_)
   have q10 := gL zl 16
   go_simp
   clear q10
   refine hK _ _ (tP hs hd zl ?_)
   clear hK K hs hd zl
   intro a hs hd zl
   refine tail_op rfl (fun K hK => ?_)
   have q79 := gL zl 1
   have q80 := gL zl 0
   have cz : w5.cell? ⟨g, 17, none⟩ = some (.string H.pr) := by rw [hg.cell]; rfl
   have fz : w5.frozen? ⟨g, 17, none⟩ = false := hg.free _
   go_simp
   clear q79 q80
   refine hK _ _ ?_
   clear hK K
   change wpList _ _ _ _ a _
   have hgs := gb1 w5 g 17 (.string st)
   have hg2 : Blk (World.setCell w5 ⟨g, 17, none⟩ (.string st)) g 33 ({H with pr := st} : Hd).cells := by
    have h := Blk.set_ hg 17 (.string st)
    rw [Hd.set17] at h
    exact h
   replace hB := Below.setCell hB (p := ⟨g, 17, none⟩) hBg0 (.string st)
   replace hJk := hJk.hd hJf hg hgs
   have hHk0 := hHk.hd hHf hg hgs
   have hHk2 : ({H with pr := st} : Hd).ok _ := ⟨hHk0.bh, hHk0.bp, hHk0.hh⟩
   have hHf2 : ({H with pr := st} : Hd).full := ⟨hHf.bh, hHf.bp, hHf.hh⟩
   have hHn2 : ({H with pr := st} : Hd).num := ⟨hHn.vb, hHn.va, hHn.ht, hHn.sec, hHn.ns, hHn.bt, hHn.ch, hstn⟩
   have hHt2 : 0 < ({H with pr := st} : Hd).ht := hHt
   replace hj := hj.gbfar hgs hgj
   obtain ⟨H2, hH2⟩ : ∃ H2, Is ({H with pr := st} : Hd) H2 := is_self _
   rw [hH2.out] at hg2 hHk2 hHf2 hHn2 hHt2
   clear hg hHk hHk0 hHf hHn hHt hH2
   have hg := hg2
   have hHk := hHk2
   have hHf := hHf2
   have hHn := hHn2
   have hHt := hHt2
   clear hg2 hHk2 hHf2 hHn2 hHt2
   clear hgs cz fz
   generalize World.setCell w5 _ _ = w6 at hB hg hj hHk hJk ⊢
   refine wp_region_list ?_
   show wpList _ _ _ [_, _, _, _, _, _] _ _
   refine tail_op rfl (fun K hK => ?_)
   have q10 := gL zl 17
   have s10 := vL zl 17
   refine op_load_row 33 (.tmp 10) rfl g s10 _ _ _ hg rfl rfl (by kernel_rfl) ?_
   clear q10
   refine hK _ _ (tP hs hd zl ?_)
   clear hK K hs hd zl s10
   intro a hs hd zl
   refine tail_op rfl (fun K hK => ?_)
   have q81 := gL zl 0
   go_simp
   refine (c_lheader H2 _).mono ?_
   rintro e w3 ⟨rfl, hb2⟩
   clear q81
   refine hK _ _ (tP hs hd zl ?_)
   clear hK K hs hd zl
   intro a hs hd zl
   replace hB := bz_then hB hb2
   replace hg := hg.after hb2
   replace hj := hj.after hb2
   replace hHk := hHk.after hb2
   replace hJk := hJk.after hb2
   clear hb2
   refine tail_op rfl (fun K hK => ?_)
   have q82 := gL zl 0
   go_simp
   refine (c_HeaderSum H2 _ hHn hHk hHf.ne).mono ?_
   rintro e w4 ⟨v, rfl, hv, hb2⟩
   clear q82
   refine hK _ _ (tP hs hd zl ?_)
   clear hK K hs hd zl
   intro a hs hd zl
   replace hB := bz_then hB hb2
   replace hg := hg.after hb2
   replace hj := hj.after hb2
   replace hHk := hHk.after hb2
   replace hJk := hJk.after hb2
   obtain ⟨s, rfl, hso, hsl⟩ := hv.sl (rootN_bytes _ _) (by rw [rootN_len]; decide)
   have hs32 : Kept (s.l.length = 32) := Is.hid (by rw [hsl.out, rootN_len])
   obtain ⟨s83, s82, s81, -, -, -, -, -, -, -, -, -, -, -, -, -, -, -, -, -, s10, s11, -, -, -, -⟩ := zl
   unfold HSl.v at s83
   clear hb2 hsl
   refine tail_op rfl (fun K hK => ?_)
   have q11 := gd s11
   go_simp
   clear q11
   refine hK _ _ ?_
   clear hK K
   refine act_put (d := 84) _ hs hd (by decide) [(10, _), (11, _), (81, _), (82, _), (83, _)] ⟨s10, s11, s81, s82, s83, trivial⟩ rfl ?_
   clear hs hd s10 s11 s81 s82 s83
   intro a hs hd zl
   refine tail_op rfl (fun K hK => ?_)
   have q84 := gL zl 0
   go_simp
   clear q84
   refine hK _ _ (tP hs hd zl ?_)
   clear hK K hs hd zl
   intro a hs hd zl
   refine tail_op rfl (fun K hK => ?_)
   have q83 := gL zl 6
   have q85 := gL zl 0
   have cz : w4.cell? ⟨j, 6, none⟩ = some (J2.bh.v) := by rw [hj.cell]; rfl
   unfold HSl.v at cz
   have fz : w4.frozen? ⟨j, 6, none⟩ = false := hj.free _
   go_simp
   clear q83 q85
   refine hK _ _ ?_
   clear hK K
   change wpList _ _ _ _ a _
   have hgs := gb1 w4 j 6 (.slice s.A s.l.length s.c)
   have hj2 : Blk (World.setCell w4 ⟨j, 6, none⟩ (.slice s.A s.l.length s.c)) j 33 ({J2 with bh := s} : Hd).cells := by
    have h := Blk.set_ hj 6 s.v
    rw [Hd.set6] at h
    exact h
   replace hB := Below.setCell hB (p := ⟨j, 6, none⟩) hBj (.slice s.A s.l.length s.c)
   replace hHk := hHk.hd hHf hj hgs
   have hJk2 : ({J2 with bh := s} : Hd).ok _ := ⟨hso.hd hs32.out hj hgs, hJk.bp.hd hJf.bp hj hgs, fun i hi => (hJk.hh i hi).hd (hJf.hh i hi) hj hgs⟩
   have hJf2 : ({J2 with bh := s} : Hd).full := ⟨hs32.out, hJf.bp, hJf.hh⟩
   have hJn2 : ({J2 with bh := s} : Hd).num := ⟨hJn.vb, hJn.va, hJn.ht, hJn.sec, hJn.ns, hJn.bt, hJn.ch, hJn.pr⟩
   replace hg := hg.gbfar hgs hgj.symm
   obtain ⟨J3, hJ2⟩ : ∃ J3, Is ({J2 with bh := s} : Hd) J3 := is_self _
   rw [hJ2.out] at hj2 hJk2 hJf2 hJn2
   clear hj hJk hJf hJn hJ2 hso hs32
   have hj := hj2
   have hJk := hJk2
   have hJf := hJf2
   have hJn := hJn2
   clear hj2 hJk2 hJf2 hJn2
   clear hgs cz fz
   generalize World.setCell w4 _ _ = w5 at hB hg hj hHk hJk ⊢
   refine wp_seq ?_
   refine fl2 [.eq 86 (.agg H2.cells), .eq 87 (.agg J3.cells), .eq 88 (.bool (backB H2 J3)), .eq 89 (.agg H2.cells), .eq 90 (.agg H2.cells), .eq 91 (.agg J3.cells), .eq 92 (.agg J3.cells), .eq 93 (.bool (backB H2 J3))] 8 hs hd zl
    ⟨(stp rfl fun a u hb hs hl hd K hK => by
      have s10 := gL hl 2
      clear hd
      refine op_load_row 33 (.tmp 10) rfl g (gu s10) _ _ _ (hg.after hb) rfl rfl (by kernel_rfl) ?_
      exact kE hK hs),
     (stp rfl fun a u hb hs hl hd K hK => by
      have s11 := gL hl 3
      clear hd
      refine op_load_row 33 (.tmp 11) rfl j (gu s11) _ _ _ (hj.after hb) rfl rfl (by kernel_rfl) ?_
      exact kE hK hs),
     (stp rfl fun a u hb hs hl hd K hK => by
      have s86 := gD hd 0
      have s87 := gD hd 1
      clear hd
      go_simp
      refine (c_iBack H2 J3 _ hHn hJn (hHk.after hb) (hJk.after hb) hHt hHf.sized hHf.ne (hKt.after (bz_then hB hb))).mono ?_
      rintro e w3 ⟨rfl, hb2⟩
      exact hK _ _ hb2 (eq_put hs (by decide))),
     (stp rfl fun a u hb hs hl hd K hK => by
      have s10 := gL hl 2
      clear hd
      refine op_load_row 33 (.tmp 10) rfl g (gu s10) _ _ _ (hg.after hb) rfl rfl (by kernel_rfl) ?_
      exact kE hK hs),
     (stp rfl fun a u hb hs hl hd K hK => by
      have s89 := gD hd 3
      clear hd
      go_simp
      refine (c_lheader H2 _).mono ?_
      rintro e w3 ⟨rfl, hb2⟩
      exact hK _ _ hb2 (eq_put hs (by decide))),
     (stp rfl fun a u hb hs hl hd K hK => by
      have s11 := gL hl 3
      clear hd
      refine op_load_row 33 (.tmp 11) rfl j (gu s11) _ _ _ (hj.after hb) rfl rfl (by kernel_rfl) ?_
      exact kE hK hs),
     (stp rfl fun a u hb hs hl hd K hK => by
      have s91 := gD hd 5
      clear hd
      go_simp
      refine (c_lheader J3 _).mono ?_
      rintro e w3 ⟨rfl, hb2⟩
      exact hK _ _ hb2 (eq_put hs (by decide))),
     (stp rfl fun a u hb hs hl hd K hK => by
      have s90 := gD hd 4
      have s92 := gD hd 6
      clear hd
      go_simp
      refine (c_sBack H2 J3 _ hHn (hHk.after hb) (hJk.after hb) hHt hHf.sized hHf.ne).mono ?_
      rintro e w3 ⟨rfl, hb2⟩
      exact hK _ _ hb2 (eq_put hs (by decide))),
     trivial⟩ ?_
   clear hs hd zl
   intro a w hb hs hd zl hh
   replace zl := lH hh 2 zl
   replace zl := lH hh 7 zl
   clear hh
   replace hg := hg.after hb
   replace hj := hj.after hb
   replace hB := bz_then hB hb
   clear hb
   show wpList _ _ _ [_, _] _ _
   refine tail_op rfl (fun K hK => ?_)
   have q88 := gL zl 1
   have q93 := gL zl 0
   have hbb : (backB H2 J3 == backB H2 J3) = true := beq_self_eq_true _
   go_simp
   clear q88 q93
   refine hK _ _ (tP hs hd zl ?_)
   clear hK K hs hd zl
   intro a hs hd zl
   refine tail_op rfl (fun K hK => ?_)
   have q94 := gL zl 0
   go_simp
   clear q94
   refine hK _ _ (tP hs hd zl ?_)
   clear hK K hs hd zl
   intro a hs hd zl
   refine wp_ret ?_
   exact end_tmp rfl hd (vL zl 0) ⟨rfl, hB⟩
  have t3 : (tw == 3) = false := by rw [beq_eq_false_iff_ne]; exact h3
  refine wp_seq ?_
  refine wp_region_list ?_
  show wpList _ _ _ [_, _] _ _
  refine tail_op rfl (fun K hK => ?_)
  have q49 := gL zl 6
  go_simp
  clear q49
  refine hK _ _ (tP hs hd zl ?_)
  clear hK K hs hd zl
  intro a hs hd zl
  refine tail_op rfl (fun K hK => ?_)
  have q77 := gL zl 0
  go_simp
  clear q77
  refine hK _ _ (tP hs hd zl ?_)
  clear hK K hs hd zl
  intro a hs hd zl
  refine wp_cond_false (vL zl 0) ?_
  refine wp_skip ?_
  refine wp_seq ?_
  refine fl2 [.eq 86 (.agg H.cells), .eq 87 (.agg J2.cells), .eq 88 (.bool (backB H J2)), .eq 89 (.agg H.cells), .eq 90 (.agg H.cells), .eq 91 (.agg J2.cells), .eq 92 (.agg J2.cells), .eq 93 (.bool (backB H J2))] 8 hs hd zl
   ⟨(stp rfl fun a u hb hs hl hd K hK => by
     have s10 := gL hl 14
     clear hd
     refine op_load_row 33 (.tmp 10) rfl g (gu s10) _ _ _ (hg.after hb) rfl rfl (by kernel_rfl) ?_
     exact kE hK hs),
    (stp rfl fun a u hb hs hl hd K hK => by
     have s11 := gL hl 15
     clear hd
     refine op_load_row 33 (.tmp 11) rfl j (gu s11) _ _ _ (hj.after hb) rfl rfl (by kernel_rfl) ?_
     exact kE hK hs),
    (stp rfl fun a u hb hs hl hd K hK => by
     have s86 := gD hd 0
     have s87 := gD hd 1
     clear hd
     go_simp
     refine (c_iBack H J2 _ hHn hJn (hHk.after hb) (hJk.after hb) hHt hHf.sized hHf.ne (hKt.after (bz_then hB hb))).mono ?_
     rintro e w3 ⟨rfl, hb2⟩
     exact hK _ _ hb2 (eq_put hs (by decide))),
    (stp rfl fun a u hb hs hl hd K hK => by
     have s10 := gL hl 14
     clear hd
     refine op_load_row 33 (.tmp 10) rfl g (gu s10) _ _ _ (hg.after hb) rfl rfl (by kernel_rfl) ?_
     exact kE hK hs),
    (stp rfl fun a u hb hs hl hd K hK => by
     have s89 := gD hd 3
     clear hd
     go_simp
     refine (c_lheader H _).mono ?_
     rintro e w3 ⟨rfl, hb2⟩
     exact hK _ _ hb2 (eq_put hs (by decide))),
    (stp rfl fun a u hb hs hl hd K hK => by
     have s11 := gL hl 15
     clear hd
     refine op_load_row 33 (.tmp 11) rfl j (gu s11) _ _ _ (hj.after hb) rfl rfl (by kernel_rfl) ?_
     exact kE hK hs),
    (stp rfl fun a u hb hs hl hd K hK => by
     have s91 := gD hd 5
     clear hd
     go_simp
     refine (c_lheader J2 _).mono ?_
     rintro e w3 ⟨rfl, hb2⟩
     exact hK _ _ hb2 (eq_put hs (by decide))),
    (stp rfl fun a u hb hs hl hd K hK => by
     have s90 := gD hd 4
     have s92 := gD hd 6
     clear hd
     go_simp
     refine (c_sBack H J2 _ hHn (hHk.after hb) (hJk.after hb) hHt hHf.sized hHf.ne).mono ?_
     rintro e w3 ⟨rfl, hb2⟩
     exact hK _ _ hb2 (eq_put hs (by decide))),
    trivial⟩ ?_
  clear hs hd zl
  intro a w hb hs hd zl hh
  replace zl := lH hh 2 zl
  replace zl := lH hh 7 zl
  clear hh
  replace hg := hg.after hb
  replace hj := hj.after hb
  replace hB := bz_then hB hb
  clear hb
  show wpList _ _ _ [_, _] _ _
  refine tail_op rfl (fun K hK => ?_)
  have q88 := gL zl 1
  have q93 := gL zl 0
  have hbb : (backB H J2 == backB H J2) = true := beq_self_eq_true _
  go_simp
  clear q88 q93
  refine hK _ _ (tP hs hd zl ?_)
  clear hK K hs hd zl
  intro a hs hd zl
  refine tail_op rfl (fun K hK => ?_)
  have q94 := gL zl 0
  go_simp
  clear q94
  refine hK _ _ (tP hs hd zl ?_)
  clear hK K hs hd zl
  intro a hs hd zl
  refine wp_ret ?_
  exact end_tmp rfl hd (vL zl 0) ⟨rfl, hB⟩
 have e0 : decide (2147483647 < n) = true := decide_eq_true (by omega)
 have e0' : decide ((2147483647 : Int) < (n : Int)) = true := decide_eq_true (by omega)
 refine wp_seq ?_
 refine wp_seq ?_
 refine fl2 (F := [(0, _), (1, _), (2, _), (3, _)]) [.eq 12 _, .eq 13 (.bool true), .eq 14 _, .eq 15 (.bool false), .eq 16 _, .eq 17 _, .eq 18 (.bool true)] 7 hs hd ⟨s0, s1, s2, s3, trivial⟩
  ⟨(stp rfl fun a u hb hs hl hd K hK => by have s0 := gL hl 0; clear hd; go_simp; exact kE hK hs),
   (stp rfl fun a u hb hs hl hd K hK => by
    have s12 := gD hd 0
    clear hd
    go_simp
    refine (c_zzFits1 L A c _ (hL.after (bz_then hB hb))).mono ?_
    rintro e w3 ⟨rfl, hb2⟩
    rw [hfit]
    exact hK _ _ hb2 (eq_put hs (by decide))),
   (stp rfl fun a u hb hs hl hd K hK => by have s13 := gD hd 1; clear hd; go_simp; exact kE hK hs),
   (stp rfl fun a u hb hs hl hd K hK => by have s14 := gD hd 2; clear hd; go_simp; exact kE hK hs),
   (fun a u hb hs hl hd K hK => by have s3 := gL hl 3; have g15 := vD hd 3; clear hd; refine step_yes rfl (j := 3) (d := 15) rfl rfl g15 ?_; go_simp; exact kE hK hs),
   (fun a u hb hs hl hd K hK => by have s16 := gD hd 4; have g15 := vD hd 3; clear hd; refine step_yes rfl (j := 3) (d := 15) rfl rfl g15 ?_; go_simp; exact kE hK hs),
   (fun a u hb hs hl hd K hK => by have s17 := gD hd 5; have g15 := vD hd 3; clear hd; refine step_yes rfl (j := 3) (d := 15) rfl rfl g15 ?_; go_simp; exact kE hK hs),
   trivial⟩ ?_
 clear hs hd s0 s1 s2 s3
 intro a w hb hs hd zl hh
 replace zl := lH hh 3 zl
 replace zl := lH hh 6 zl
 clear hh
 replace hB := bz_then hB hb
 clear hb
 show wpList _ _ _ [_] _ _
 refine tail_op rfl (fun K hK => ?_)
 have q15 := gL zl 1
 have q18 := gL zl 0
 go_simp
 clear q15 q18
 refine hK _ _ (tP hs hd zl ?_)
 clear hK K hs hd zl
 intro a hs hd zl
 refine wp_cond_true (vL zl 0) ?_
 refine wp_seq ?_
 refine wp_region_list ?_
 show wpList _ _ _ [_] _ _
 refine tail_op rfl (fun K hK => ?_)
 go_simp
 refine hK _ _ (tP hs hd zl ?_)
 clear hK K hs hd zl
 intro a hs hd zl
 refine wp_ret ?_
 repeat first | refine then_ret ?_ | refine inBlock_ret ?_
 exact end_tmp rfl hd (vL zl 0) ⟨rfl, hB⟩
end Go.Proofs.YtcmllcmcbamlbaaDoor
namespace Go.Proofs.YtcmllcmcbamlbaaDoor.fnBack
open Go.ChangeShapes Go.WideShapes Go.ChangeAt Go.RowKit Go.Deep
set_option linter.unusedVariables false

theorem own : ownKnob Tryd.prog.godebug = none := by kernel_rfl
theorem laidOut : laidOutB Tryd.prog = true := by kernel_rfl
theorem gK : Tryd.prog.globalNamed "lightclient/pub/sha256._K" = some 0 := by kernel_rfl
theorem tK : (Tryd.prog.globals[0]?).map (·.type) = some 63 := by kernel_rfl

/-- The listed table is the plain one. -/
theorem laid_list : (Rows.laid_lightclient_pub_sha256_K : DataW Unit) = .agg (kTab.map fun x => .lit (.int .u32 x)) := rfl
theorem ktab {W : World} (h : laidMetH Tryd.prog [("lightclient/pub/sha256._K", Rows.laid_lightclient_pub_sha256_K)] W) : KTab W 0 := by
 rw [MakeChecks.laidMetH_plain _ _ _ (by kernel_rfl)] at h
 obtain ⟨ps, ⟨g1, t1, cs1, f1, p1, q1, hg1, ht1, hv1, hd1, _, _⟩, _, _⟩ := h
 obtain rfl := Option.some.inj (gK.symm.trans hg1)
 obtain rfl := Option.some.inj (tK.symm.trans ht1)
 obtain ⟨xs, m1, rfl, hx1, hlen, hn3, hel⟩ := DataW.trod_array Tryd.underlying63 hd1
 have c3 : Tryd.prog.cellsOf 60 = 1 := by kernel_rfl
 rw [c3] at hel
 simp only [Prod.mk.injEq] at hx1
 have hx : xs.map (·.1) = kTab.map fun x => DataW.lit (Lit.int .u32 x) := by
  have h1 := hx1.1
  rw [laid_list] at h1
  exact DataW.agg.inj h1.symm
 intro i hi
 have hxi : i < xs.length := by omega
 have h0 := hel i hi
 rw [List.getElem?_eq_getElem hxi, Nat.mul_one] at h0
 obtain ⟨k, e1, e2, _⟩ := DataW.trod_int Tryd.underlying60 h0
 have hk : k = kTab.getD i 0 := by
  have h2 : (xs.map (·.1))[i]? = (kTab.map fun x => DataW.lit (Lit.int .u32 x))[i]? := by rw [hx]
  have hkl : i < kTab.length := hi
  rw [List.getElem?_map, List.getElem?_map, List.getElem?_eq_getElem hxi, List.getElem?_eq_getElem hkl, e2] at h2
  simp only [Option.map_some, Option.some.injEq, DataW.lit.injEq, Lit.int.injEq, true_and] at h2
  rw [h2, List.getD_eq_getElem?_getD, List.getElem?_eq_getElem hkl]
  rfl
 rw [World.var?_cell gK hv1 i, ← Array.getElem?_toList]
 have h3 : ((cs1.toList.drop i).take 1)[0]? = some (Value.int .u32 k) := by rw [e1]; rfl
 rw [List.getElem?_take, if_pos (by decide), List.getElem?_drop, Nat.add_zero] at h3
 rw [h3, hk]

section
variable {H : Type} {enc : TypeId × Value → H} {W : World}
/-- Seats that came in. -/
theorem open_seats {fuel : Nat} {a : Option Addr} {n c : Nat} {x : DataW H × List MemPlace} (h : DataW.trod enc Tryd.prog W 0 (fun _ => true) true fuel 22 [.slice a n c] = some x) :
  ∃ L : List Seat, L.length = n ∧ SeatsAt W a L ∧ (Fm a L.length c ∨ ∃ ad, a = some ad ∧ L = []) ∧ L.length ≤ c ∧ c ≤ 9223372036854775807 ∧ ∀ s ∈ L, -9223372036854775808 ≤ s.p ∧ s.p ≤ 9223372036854775807 := by
 rcases open_slice Tryd.underlying22 h with ⟨hcs, _⟩ | ⟨ad, len, cap, m, f, D, Pl, hcs, _, hl, hm, hmm, _, hi⟩
 ·simp at hcs
  obtain ⟨rfl, rfl, rfl⟩ := hcs
  exact ⟨[], rfl, RowsAt.nil _ _ _, .inl (.inl ⟨rfl, rfl, rfl⟩), Nat.le_refl _, by decide, fun s hs => by cases hs⟩
 ·simp at hcs
  obtain ⟨rfl, rfl, rfl⟩ := hcs
  have hm' : m = c := hmm
  subst hm'
  have hC : Tryd.prog.cellsOf 47 = 4 := by kernel_rfl
  have hone : oneCellFields Tryd.prog #[{ name := "Address", type := 9, offset := 0, embedded := false, tag := "", pkgPath := "", byteOffset := 0 }, { name := "Key", type := 9, offset := 1, embedded := false, tag := "", pkgPath := "", byteOffset := 16 }, { name := "Power", type := 3, offset := 2, embedded := false, tag := "", pkgPath := "", byteOffset := 32 }, { name := "Priority", type := 3, offset := 3, embedded := false, tag := "", pkgPath := "", byteOffset := 40 }] = true := by kernel_rfl
  have hs : ∀ i, i < m → ∃ s : Seat, (∀ j v, s.cells[j]? = some v → W.cell? (ad.add (i * 4 + j)) = some v) ∧ -9223372036854775808 ≤ s.p ∧ s.p ≤ 9223372036854775807 := by
   intro i him
   obtain ⟨cs', hc, ht'⟩ := hi i him
   rw [hC] at hc
   obtain ⟨ys, n', hn', hy, hlen, hyl, hf⟩ := DataW.trod_struct Tryd.underlying47 ht'
   obtain ⟨_, hcl, hat⟩ := World.cells?_some hc
   rcases cs' with _ | ⟨v0, _ | ⟨v1, _ | ⟨v2, _ | ⟨v3, _ | ⟨v4, ct⟩⟩⟩⟩⟩
   ·cases hcl
   ·cases hcl
   ·cases hcl
   ·cases hcl
   rotate_left
   ·exact absurd hcl (by simp)
   ·obtain ⟨o0, k0⟩ := hone_of hone 0 _ rfl
    obtain ⟨o1, k1⟩ := hone_of hone 1 _ rfl
    obtain ⟨o2, k2⟩ := hone_of hone 2 _ rfl
    obtain ⟨o3, k3⟩ := hone_of hone 3 _ rfl
    have g0 := hf 0 _ rfl
    have g1 := hf 1 _ rfl
    have g2 := hf 2 _ rfl
    have g3 := hf 3 _ rfl
    rw [o0, k0, List.getElem?_eq_getElem (show 0 < ys.length by rw [hyl]; decide)] at g0
    rw [o1, k1, List.getElem?_eq_getElem (show 1 < ys.length by rw [hyl]; decide)] at g1
    rw [o2, k2, List.getElem?_eq_getElem (show 2 < ys.length by rw [hyl]; decide)] at g2
    rw [o3, k3, List.getElem?_eq_getElem (show 3 < ys.length by rw [hyl]; decide)] at g3
    obtain ⟨s0, e0, _, _⟩ := DataW.trod_string Tryd.underlying9 g0
    obtain ⟨s1, e1, _, _⟩ := DataW.trod_string Tryd.underlying9 g1
    obtain ⟨p2, e2, _, w2⟩ := DataW.trod_int Tryd.underlying3 g2
    obtain ⟨p3, e3, _, _⟩ := DataW.trod_int Tryd.underlying3 g3
    obtain rfl : v0 = .string s0 := List.singleton_inj.1 e0
    obtain rfl : v1 = .string s1 := List.singleton_inj.1 e1
    obtain rfl : v2 = .int .i64 p2 := List.singleton_inj.1 e2
    obtain rfl : v3 = .int .i64 p3 := List.singleton_inj.1 e3
    refine ⟨⟨s0, s1, p2, p3⟩, fun j v hj => ?_, bounds_i64 w2⟩
    have hj4 : j < 4 := (List.getElem?_eq_some_iff.1 hj).1
    have := hat j hj4
    rw [Go.Deep.add_add] at this
    rw [this]
    exact hj
  have hex : ∃ f : Nat → Seat, ∀ i, i < m → (∀ j v, (f i).cells[j]? = some v → W.cell? (ad.add (i * 4 + j)) = some v) ∧ -9223372036854775808 ≤ (f i).p ∧ (f i).p ≤ 9223372036854775807 :=
   ⟨fun i => if h : i < m then Classical.choose (hs i h) else ⟨⟨#[]⟩, ⟨#[]⟩, 0, 0⟩, fun i h => by simp only [dif_pos h]; exact Classical.choose_spec (hs i h)⟩
  obtain ⟨f, hf⟩ := hex
  have hget : ∀ i s, ((List.range n).map f)[i]? = some s → i < n ∧ s = f i := by
   intro i s h
   rw [List.getElem?_map] at h
   have hin : i < n := by
    rcases Nat.lt_or_ge i n with h' | h'
    ·exact h'
    ·rw [List.getElem?_eq_none (by simpa using h')] at h; cases h
   rw [List.getElem?_range hin] at h
   exact ⟨hin, by simpa using h.symm⟩
  refine ⟨(List.range n).map f, by simp, ?_, ?_, by simpa using hl, by unfold maxLen at hm; exact hm, ?_⟩
  ·intro i r hr
   have hr' := hr
   unfold seatRows at hr
   rw [List.getElem?_map] at hr
   rcases hq : ((List.range n).map f)[i]? with _ | s
   ·rw [hq] at hr; cases hr
   ·rw [hq] at hr
    simp only [Option.map_some, Option.some.injEq] at hr
    obtain ⟨hin, rfl⟩ := hget i s hq
    subst hr
    obtain ⟨hc, _⟩ := hf i (by omega)
    have h0 := hc 0 _ rfl
    have hsp : ad = ⟨ad.block, ad.off, none⟩ := by
     have h00 := (hf 0 (by omega)).1 0 _ rfl
     have := World.cell?_spot h00
     obtain ⟨b, o, sp⟩ := ad
     simpa [Addr.add] using this
    have hc0 := hc 0 _ rfl
    rw [hsp, addr_add] at hc0
    refine ⟨rfl, ad.block, ad.off, by rw [← hsp], World.block_lt_of_cell? W ⟨ad.block, _, none⟩ hc0, fun j v hj => ?_⟩
    ·have := hc j v hj
     rw [hsp, addr_add] at this
     simpa [Nat.add_assoc] using this
  ·by_cases hn0 : n = 0
   ·subst hn0
    exact .inr ⟨ad, rfl, rfl⟩
   ·left
    right
    have h00 := (hf 0 (by omega)).1 0 _ rfl
    have := World.cell?_spot h00
    obtain ⟨b, o, sp⟩ := ad
    refine ⟨b, o, ?_⟩
    have : sp = none := by simpa [Addr.add] using this
    rw [this]
  ·intro s hs'
   obtain ⟨i, hi', rfl⟩ := List.mem_map.1 hs'
   exact (hf i (by have := List.mem_range.1 hi'; omega)).2
/-- Bytes that came in. -/
theorem open_text {fuel : Nat} {a : Option Addr} {n c : Nat} {x : DataW H × List MemPlace} (h : DataW.trod enc Tryd.prog W 0 (fun _ => true) true fuel 23 [.slice a n c] = some x) :
  ∃ l : List Int, l.length = n ∧ Bs W a l ∧ (Fm a l.length c ∨ ∃ ad, a = some ad ∧ l = []) ∧ l.length ≤ c ∧ Bytes l := by
 rcases open_ints Tryd.underlying23 Tryd.underlying5 (by kernel_rfl) h with ⟨hcs, _⟩ | ⟨ad, l, cc, zs, hcs, _, hl, hm, hz, _, hcell, hwz⟩
 ·simp at hcs
  obtain ⟨rfl, rfl, rfl⟩ := hcs
  exact ⟨[], rfl, Bs.nil _ _, .inl (.inl ⟨rfl, rfl, rfl⟩), Nat.le_refl _, Bytes.nil⟩
 ·simp at hcs
  obtain ⟨rfl, rfl, rfl⟩ := hcs
  have hz' : zs.length = c := by simpa using hz
  have hb : Bytes zs := fun y hy => by
   have := hwz y hy
   unfold U8
   simp [Lit.wf, IntKind.min, IntKind.max, IntKind.signed, IntKind.bits] at this
   omega
  have htl : (zs.take n).length = n := by rw [List.length_take]; omega
  by_cases hn0 : n = 0
  ·subst hn0
   exact ⟨[], rfl, Bs.nil _ _, .inr ⟨ad, rfl, rfl⟩, Nat.zero_le _, Bytes.nil⟩
  ·have h00 := hcell 0 (by omega)
   have hsp := World.cell?_spot h00
   obtain ⟨b, o, sp⟩ := ad
   have hsp : sp = none := by simpa [Addr.add] using hsp
   subst hsp
   refine ⟨zs.take n, htl, fun i hi => ?_, .inl (.inr ⟨b, o, rfl⟩), by omega, hb.take n⟩
   rw [htl] at hi
   have := hcell i (by omega)
   rw [addr_add] at this
   refine ⟨b, o, rfl, World.block_lt_of_cell? W _ this, ?_⟩
   rw [this]
   congr 2
   rw [List.getD_eq_getElem?_getD, List.getD_eq_getElem?_getD, List.getElem?_take, if_pos (by omega)]
end

/-! ### The row's step -/
set_option maxRecDepth 100000 in
theorem lifted (os : Os) (started : os.Started) (H : Type) (enc : TypeId × Value → H) :
  ReturnsInHanded {} Tryd.checked os 3 .any (fun w args => (Rows.fnBackSpec.pre enc Tryd.prog Tryd.f3 [] false w args ∧ laidMetH Tryd.prog [("lightclient/pub/sha256._K", Rows.laid_lightclient_pub_sha256_K)] w) ∧ sizedMet enc Tryd.prog Tryd.f3 (OpenSpec.ofChange Rows.fnBackSpec) false w args)
   (Rows.fnBackSpec.post enc Tryd.prog Tryd.f3 false true false false) := by
 refine returnsInHanded_of_change_and (C := Tryd.checked) (X := fun w _ => laidMetH Tryd.prog [("lightclient/pub/sha256._K", Rows.laid_lightclient_pub_sha256_K)] w) (fun _ _ _ hh h => h.of_heap hh) own started (by kernel_rfl) Tryd.func3
  (ChangeSpec.witness_shaped (enc := enc) (C := Tryd.checked) (os := os) (X := fun w _ => laidMetH Tryd.prog [("lightclient/pub/sha256._K", Rows.laid_lightclient_pub_sha256_K)] w) false (World.laidAll Tryd.prog os [("lightclient/pub/sha256._K", Rows.laid_lightclient_pub_sha256_K)]) #[.slice none 0 0, .int .i64 0, .int .i64 0, .slice none 0 0] 8 (World.laidAll_os _ _ _)
   (World.shaped_of_ZipB (by kernel_rfl) (by kernel_rfl)) (by kernel_rfl) (by kernel_rfl) (by kernel_rfl)
   (by rw [MakeChecks.laidMetH_plain _ _ _ (by kernel_rfl)]; exact laidMet_laidAll _ (by kernel_rfl) (by kernel_rfl))) ?_
 intro W base args ds gs before hval0 hW _ _ hLd _
 have hval : ∀ (j : Nat) t v, Tryd.f3.params[j]? = some t → args[j]? = some v → Value.okWide Tryd.prog W .any base t v := hval0
 have hW' := hW
 obtain ⟨p, q, hA0, hV, rfl, _, _⟩ := hW
 have hA : DataW.TrodAll enc Tryd.prog W 0 (fun _ => true) true Tryd.f3.params.toList args.toList ds p := hA0
 rw [Tryd.params3] at hA hval
 obtain ⟨v0, vs0, d0, ds0, p0, q0, hargs, rfl, rfl, h0, r0⟩ := trodAll_cons hA
 obtain ⟨v1, vs1, d1, ds1, p1, q1, rfl, rfl, rfl, h1, r1⟩ := trodAll_cons r0
 obtain ⟨v2, vs2, d2, ds2, p2, q2, rfl, rfl, rfl, h2, r2⟩ := trodAll_cons r1
 obtain ⟨v3, vs3, d3, ds3, p3, q3, rfl, rfl, rfl, h3, r3⟩ := trodAll_cons r2
 obtain ⟨rfl, rfl, rfl⟩ := trodAll_nil r3
 obtain rfl : args = #[v0, v1, v2, v3] := by cases args; simp_all
 obtain ⟨rfl, rfl⟩ := trodVars_none hV
 obtain ⟨a0, n0, c0, rfl⟩ := okWide_slice Tryd.underlying22 (hval 0 22 v0 rfl rfl)
 obtain ⟨a1, rfl, rfl, rfl, w1⟩ := open_int Tryd.underlying3 (hval 1 3 v1 rfl rfl) h1
 obtain ⟨a2, rfl, rfl, rfl, w2⟩ := open_int Tryd.underlying3 (hval 2 3 v2 rfl rfl) h2
 obtain ⟨a3, n3, c3, rfl⟩ := okWide_slice Tryd.underlying23 (hval 3 23 v3 rfl rfl)
 have k0 := h0
 have k3 := h3
 have lt0 : ∀ x ∈ p0, x.block < W.heap.size := by obtain ⟨m, hm⟩ := k0; exact DataW.trod_lt m _ _ _ hm
 have lt3 : ∀ x ∈ p3, x.block < W.heap.size := by obtain ⟨m, hm⟩ := k3; exact DataW.trod_lt m _ _ _ hm
 obtain ⟨m0, h0⟩ := h0
 obtain ⟨m3, h3⟩ := h3
 obtain ⟨L, rfl, hL, hf, hc, hcm, hp⟩ := open_seats h0
 obtain ⟨l, rfl, hT, hTf, hTc, hT8⟩ := open_text h3
 clear hA0 hval0
 refine (w_FnBack L a0 a3 c0 c3 a1 a2 l W hL hf hc hcm hp (bounds_i64 w1) (bounds_i64 w2) hT hTf hTc hT8 (ktab hLd)).mono fun e W' ⟨he, bel⟩ => ?_
 subst he
 exact ⟨_, rfl, _, _, _, [], _, [], hW', trodAll_mk1 (shut_bool Tryd.underlying4 _), (trodAll_cons_mk (Below.trod laidOut (by kernel_rfl) (of_decide_eq_true (by kernel_rfl)) k0 bel lt0) (trodAll_cons_mk (shut_int Tryd.underlying3 w1) (trodAll_cons_mk (shut_int Tryd.underlying3 w2) (trodAll_cons_mk (Below.trod laidOut (by kernel_rfl) (of_decide_eq_true (by kernel_rfl)) k3 bel lt3) trodAll_mk0)))), rfl, bel.frame _, fun h => by cases h⟩

theorem over : Rows.FnBackSaid :=
 OpenClaim.holds_of_wide 3 Tryd.f3 rfl rfl rfl rfl rfl rfl rfl ⟨rfl, rfl, rfl, rfl, rfl⟩ rfl rfl rfl rfl rfl (by kernel_rfl) Tryd.func3 (by kernel_rfl)
  (of_decide_eq_true (by kernel_rfl)) (by unfold Func.isWrapper; first | (rw [if_pos (by decide +kernel)]; kernel_rfl) | (rw [if_neg (by decide +kernel)]; exact ⟨rfl, rfl⟩))
  (fun os started H enc _ => lifted os started H enc)

/-- THE STATEMENT: the card, its table tied to the program's text. -/
theorem proved : Rows.FnBackCardSaid :=
 Claim7.holds_tied_plain_at .later [] [.data] true (true, "30f5ebfb39930eefadbfdd1aeaf2a440d9648b099cab729652fdaf78de783489") false
  over (fun _ h => by cases h) (by kernel_rfl) (fun _ h => by cases h) fnBack_row_tie rfl ⟨rfl, rfl⟩ (by kernel_rfl) rfl
  (fun f fn hf hfn => by
   obtain rfl : f = 3 := Option.some.inj ((show Tryd.prog.funcNamed "lightclient/laws.FnBack" = some 3 by kernel_rfl).symm.trans hf) |>.symm
   obtain rfl : fn = Tryd.f3 := (Option.some.inj (Tryd.func3.symm.trans hfn)).symm
   exact ⟨by kernel_rfl, fun j t ht => by
    rw [Tryd.params3] at ht
    have hm : t ∈ [22, 3, 3, 23] := by simpa using Array.mem_of_getElem? ht
    have hall : ([22, 3, 3, 23].all fun u => !Tryd.prog.wantsStandIn u) = true := by kernel_rfl
    exact (show Tryd.prog.wantsStandIn t = false by simpa using List.all_eq_true.1 hall t hm)⟩)
  (by kernel_rfl)
#print axioms proved
end Go.Proofs.YtcmllcmcbamlbaaDoor.fnBack
