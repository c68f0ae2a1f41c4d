/- What is well formed: the reference's Formed. (Printed by gen_formed.py.) Headers of the thin package as the reference has them, and as the package has them. (Printed by gen_hdr.py.) -/
import Derived.Test.YtcmllcmcbamlbaaDoorM10
set_option linter.unusedVariables false
set_option linter.unusedSimpArgs false
namespace Go.Proofs.YtcmllcmcbamlbaaDoor
open Go.RowKit
theorem c_sized (A : Option Addr) (c : Nat) (l : List Int) (w : World) (hl : Sized l) : Calls Tryd.prog 44 #[.slice A l.length c] w fun e w' => e = .returned (.bool true) ∧ w' = w := by
 obtain ⟨n, hn⟩ : ∃ n, Is l.length n := is_self _
 unfold Sized at hl
 rw [hn.out] at hl ⊢
 rcases hl with rfl | rfl
 ·go_enter Tryd.func44, Tryd.ntmps44
  go_wp2
  go_ret
  exact ⟨rfl, rfl⟩
 ·go_enter Tryd.func44, Tryd.ntmps44
  go_wp2
  go_ret
  exact ⟨rfl, rfl⟩
noncomputable def fmB : Code := ((Tryd.f29.body.bind (loopIn 0)).getD .skip)

set_option maxHeartbeats 4000000 in
set_option maxRecDepth 100000 in
theorem fm_loop {Q : Exit → Act → World → Prop} {b : Bool} {w0 : World} {H : Hd} (a : Act) (w : World) (hs : SzIs a 55) (hd : DfNil a) (hz : H.sized)
  (s3 : a.tmps.getD 3 undef = .bool b) (s39 : a.tmps.getD 39 undef = .agg #[(H.hh 0).v, (H.hh 1).v, (H.hh 2).v, (H.hh 3).v, (H.hh 4).v, (H.hh 5).v, (H.hh 6).v, (H.hh 7).v]) (s40 : a.tmps.getD 40 undef = .int .i64 0) (hB : Below w0.heap.size w0 w)
  (hQ : ∀ (a : Act) (w : World), SzIs a 55 → DfNil a → LiveAll [(3, .bool b)] a → Below w0.heap.size w0 w → Q (.exit 0) a w) :
  (Code.loop fmB).wp Tryd.prog Q a w := by
 refine wp_loop (fun a w => ∃ (k : Nat), SzIs a 55 ∧ DfNil a ∧ LiveAll [(3, .bool b), (39, .agg #[(H.hh 0).v, (H.hh 1).v, (H.hh 2).v, (H.hh 3).v, (H.hh 4).v, (H.hh 5).v, (H.hh 6).v, (H.hh 7).v]), (40, .int .i64 ((k : Nat) : Int))] a ∧ (k ≤ 8) ∧ (Below w0.heap.size w0 w))
  (fun a _ => 8 - (intOf (a.tmps.getD 40 undef)).toNat) ⟨0, hs, hd, ⟨s3, s39, s40, trivial⟩, by decide, hB⟩ ?_
 clear hs hd s3 s39 s40
 rintro a w ⟨k, hs, hd, ⟨s3, s39, s40, -⟩, hk8, hB⟩
 have hm : (intOf (a.tmps.getD 40 undef)).toNat = k := by rw [s40]; simp [intOf]
 rw [hm]
 clear hm
 by_cases hlt : k < 8
 ·have e1 : decide (k < 8) = true := decide_eq_true hlt
  have e2 : decide ((k : Int) < 8) = true := decide_eq_true (by omega)
  have ew : IntKind.i64.wrap ((k : Int) + 1) = ((k + 1 : Nat) : Int) := by rw [IntWalk.i64_in _ (by omega)]; omega
  have hix : ∀ u : World, (Instr.index 31 (.agg #[(H.hh 0).v, (H.hh 1).v, (H.hh 2).v, (H.hh 3).v, (H.hh 4).v, (H.hh 5).v, (H.hh 6).v, (H.hh 7).v]) (.int .i64 ((k : Nat) : Int))).run Tryd.prog u = .ok ((H.hh k).v) u := by
   rcases (by omega : k = 0 ∨ k = 1 ∨ k = 2 ∨ k = 3 ∨ k = 4 ∨ k = 5 ∨ k = 6 ∨ k = 7) with rfl | rfl | rfl | rfl | rfl | rfl | rfl | rfl <;> exact fun _ => by kernel_rfl
  unfold HSl.v at hix s39
  conv => arg 2; whnf
  refine wp_seq ?_
  refine wp_region_list ?_
  show wpList _ _ _ [_] _ _
  refine tail_op rfl (fun K hK => ?_)
  have q40 := gd s40
  go_simp
  clear q40
  refine hK _ _ ?_
  clear hK K
  refine act_put (d := 41) _ hs hd (by decide) [(3, _), (39, _), (40, _)] ⟨s3, s39, s40, trivial⟩ rfl ?_
  clear hs hd s3 s39 s40
  intro a hs hd zl
  refine wp_seq ?_
  refine wp_cond_true (vL zl 0) ?_
  refine wp_skip ?_
  refine wp_seq ?_
  refine wp_block ?_
  refine wp_seq ?_
  refine wp_region_list ?_
  show wpList _ _ _ [_, _, _, _] _ _
  refine tail_op rfl (fun K hK => ?_)
  have q40 := gL zl 3
  go_simp
  clear q40
  refine hK _ _ (tP hs hd zl ?_)
  clear hK K hs hd zl
  intro a hs hd zl
  refine tail_op rfl (fun K hK => ?_)
  have q39 := gL zl 3
  have q40 := gL zl 4
  go_simp
  clear q39 q40
  refine hK _ _ (tP hs hd zl ?_)
  clear hK K hs hd zl
  intro a hs hd zl
  refine tail_op rfl (fun K hK => ?_)
  have q42 := gL zl 1
  go_simp
  clear q42
  refine hK _ _ (tP hs hd zl ?_)
  clear hK K hs hd zl
  intro a hs hd zl
  refine tail_op rfl (fun K hK => ?_)
  have q43 := gL zl 1
  go_simp
  clear q43
  refine hK _ _ (tP hs hd zl ?_)
  clear hK K hs hd zl
  intro a hs hd zl
  cases b
  ·refine fl2 [.eq 44 (.bool false), .eq 45 (.bool false), .eq 46 _, .eq 47 _, .eq 48 (undef), .eq 49 _, .eq 50 _, .eq 51 _, .eq 52 _] 9 hs hd zl
    ⟨(stp rfl fun a u hb hs hl hd K hK => by have s3 := gL hl 5; clear hd; go_simp; exact kE hK hs),
     (stp rfl fun a u hb hs hl hd K hK => by have s44 := gD hd 0; clear hd; go_simp; exact kE hK hs),
     (fun a u hb hs hl hd K hK => by have s4 := gL hl 1; have g45 := vD hd 1; clear hd; refine step_no rfl (j := 1) (d := 45) rfl rfl g45 (by decide) ?_; exact kE hK hs),
     (fun a u hb hs hl hd K hK => by have s46 := gD hd 2; have g45 := vD hd 1; clear hd; refine step_no rfl (j := 1) (d := 45) rfl rfl g45 (by decide) ?_; exact kE hK hs),
     (fun a u hb hs hl hd K hK => by have s47 := gD hd 3; have g45 := vD hd 1; clear hd; refine step_no rfl (j := 1) (d := 45) rfl rfl g45 (by decide) ?_; exact kE hK hs),
     (fun a u hb hs hl hd K hK => by have s5 := gL hl 0; have g48 := vD hd 4; clear hd; refine step_un rfl (j := 4) (d := 48) rfl rfl g48 ?_; exact kE hK hs),
     (fun a u hb hs hl hd K hK => by have s49 := gD hd 5; have g48 := vD hd 4; clear hd; refine step_un rfl (j := 4) (d := 48) rfl rfl g48 ?_; exact kE hK hs),
     (fun a u hb hs hl hd K hK => by have s48 := gD hd 4; have s50 := gD hd 6; have g45 := vD hd 1; clear hd; refine step_no rfl (j := 1) (d := 45) rfl rfl g45 (by decide) ?_; exact kE hK hs),
     (stp rfl fun a u hb hs hl hd K hK => by have s45 := gD hd 1; have s51 := gD hd 7; clear hd; go_simp; exact kE hK hs),
     trivial⟩ ?_
   clear hs hd zl
   intro a w hb hs hd zl hh
   replace zl := lH hh 8 zl
   clear hh
   replace hB := bz_then hB hb
   clear hb
   show wpList _ _ _ [_] _ _
   refine tail_op rfl (fun K hK => ?_)
   have q52 := gL zl 0
   go_simp
   clear q52
   refine hK _ _ ?_
   clear hK K
   obtain ⟨s52, -, -, -, -, -, s3, s39, s40, -⟩ := zl
   refine act_put (d := 3) _ hs hd (by decide) [(39, _), (40, _), (52, _)] ⟨s39, s40, s52, trivial⟩ rfl ?_
   clear hs hd s3 s39 s40 s52
   intro a hs hd zl
   refine wp_region_list ?_
   show wpList _ _ _ [_, _] _ _
   refine tail_op rfl (fun K hK => ?_)
   have q40 := gL zl 2
   go_simp
   clear q40
   refine hK _ _ (tP hs hd zl ?_)
   clear hK K hs hd zl
   intro a hs hd zl
   refine tail_op rfl (fun K hK => ?_)
   have q53 := gL zl 0
   go_simp
   clear q53
   refine hK _ _ ?_
   clear hK K
   obtain ⟨s53, s3, s39, s40, -, -⟩ := zl
   refine act_put (d := 40) _ hs hd (by decide) [(3, _), (39, _), (53, _)] ⟨s3, s39, s53, trivial⟩ rfl ?_
   clear hs hd s3 s39 s40 s53
   intro a hs hd zl
   obtain ⟨s40, s3, s39, -, -⟩ := zl
   refine ⟨⟨k + 1, hs, hd, ⟨s3, s39, s40, trivial⟩, hlt, hB⟩, ?_⟩
   rw [s40]
   simp [intOf]
   omega
  by_cases h5 : k = 5
  ·have e5 : ((k : Int) == 5) = true := by rw [beq_iff_eq]; omega
   clear h5
   refine fl2 [.eq 44 (.bool true), .eq 45 (.bool true), .eq 46 _, .eq 47 (.bool true), .eq 48 (.bool true), .eq 49 _, .eq 50 _, .eq 51 _, .eq 52 _] 9 hs hd zl
    ⟨(stp rfl fun a u hb hs hl hd K hK => by have s3 := gL hl 5; clear hd; go_simp; exact kE hK hs),
     (stp rfl fun a u hb hs hl hd K hK => by have s44 := gD hd 0; clear hd; go_simp; exact kE hK hs),
     (fun a u hb hs hl hd K hK => by have s4 := gL hl 1; have g45 := vD hd 1; clear hd; refine step_yes rfl (j := 1) (d := 45) rfl rfl g45 ?_; go_simp; exact kE hK hs),
     (fun a u hb hs hl hd K hK => by have s46 := gD hd 2; have g45 := vD hd 1; clear hd; refine step_yes rfl (j := 1) (d := 45) rfl rfl g45 ?_; go_simp; exact kE hK hs),
     (fun a u hb hs hl hd K hK => by have s47 := gD hd 3; have g45 := vD hd 1; clear hd; refine step_yes rfl (j := 1) (d := 45) rfl rfl g45 ?_; go_simp; exact kE hK hs),
     (fun a u hb hs hl hd K hK => by have s5 := gL hl 0; have g48 := vD hd 4; clear hd; refine step_no rfl (j := 4) (d := 48) rfl rfl g48 (by decide) ?_; exact kE hK hs),
     (fun a u hb hs hl hd K hK => by have s49 := gD hd 5; have g48 := vD hd 4; clear hd; refine step_no rfl (j := 4) (d := 48) rfl rfl g48 (by decide) ?_; exact kE hK hs),
     (fun a u hb hs hl hd K hK => by have s48 := gD hd 4; have s50 := gD hd 6; have g45 := vD hd 1; clear hd; refine step_yes rfl (j := 1) (d := 45) rfl rfl g45 ?_; go_simp; exact kE hK hs),
     (stp rfl fun a u hb hs hl hd K hK => by have s45 := gD hd 1; have s51 := gD hd 7; clear hd; go_simp; exact kE hK hs),
     trivial⟩ ?_
   clear hs hd zl
   intro a w hb hs hd zl hh
   replace zl := lH hh 8 zl
   clear hh
   replace hB := bz_then hB hb
   clear hb
   show wpList _ _ _ [_] _ _
   refine tail_op rfl (fun K hK => ?_)
   have q52 := gL zl 0
   go_simp
   clear q52
   refine hK _ _ ?_
   clear hK K
   obtain ⟨s52, -, -, -, -, -, s3, s39, s40, -⟩ := zl
   refine act_put (d := 3) _ hs hd (by decide) [(39, _), (40, _), (52, _)] ⟨s39, s40, s52, trivial⟩ rfl ?_
   clear hs hd s3 s39 s40 s52
   intro a hs hd zl
   refine wp_region_list ?_
   show wpList _ _ _ [_, _] _ _
   refine tail_op rfl (fun K hK => ?_)
   have q40 := gL zl 2
   go_simp
   clear q40
   refine hK _ _ (tP hs hd zl ?_)
   clear hK K hs hd zl
   intro a hs hd zl
   refine tail_op rfl (fun K hK => ?_)
   have q53 := gL zl 0
   go_simp
   clear q53
   refine hK _ _ ?_
   clear hK K
   obtain ⟨s53, s3, s39, s40, -, -⟩ := zl
   refine act_put (d := 40) _ hs hd (by decide) [(3, _), (39, _), (53, _)] ⟨s3, s39, s53, trivial⟩ rfl ?_
   clear hs hd s3 s39 s40 s53
   intro a hs hd zl
   obtain ⟨s40, s3, s39, -, -⟩ := zl
   refine ⟨⟨k + 1, hs, hd, ⟨s3, s39, s40, trivial⟩, hlt, hB⟩, ?_⟩
   rw [s40]
   simp [intOf]
   omega
  have e5 : ((k : Int) == 5) = false := by rw [beq_eq_false_iff_ne]; omega
  clear h5
  refine fl2 [.eq 44 (.bool true), .eq 45 (.bool true), .eq 46 _, .eq 47 (.bool false), .eq 48 (.bool false), .eq 49 _, .eq 50 _, .eq 51 _, .eq 52 _] 9 hs hd zl
   ⟨(stp rfl fun a u hb hs hl hd K hK => by have s3 := gL hl 5; clear hd; go_simp; exact kE hK hs),
    (stp rfl fun a u hb hs hl hd K hK => by have s44 := gD hd 0; clear hd; go_simp; exact kE hK hs),
    (fun a u hb hs hl hd K hK => by have s4 := gL hl 1; have g45 := vD hd 1; clear hd; refine step_yes rfl (j := 1) (d := 45) rfl rfl g45 ?_; go_simp; exact kE hK hs),
    (fun a u hb hs hl hd K hK => by have s46 := gD hd 2; have g45 := vD hd 1; clear hd; refine step_yes rfl (j := 1) (d := 45) rfl rfl g45 ?_; go_simp; exact kE hK hs),
    (fun a u hb hs hl hd K hK => by have s47 := gD hd 3; have g45 := vD hd 1; clear hd; refine step_yes rfl (j := 1) (d := 45) rfl rfl g45 ?_; go_simp; exact kE hK hs),
    (fun a u hb hs hl hd K hK => by have s5 := gL hl 0; have g48 := vD hd 4; clear hd; refine step_yes rfl (j := 4) (d := 48) rfl rfl g48 ?_; go_simp; exact kE hK hs),
    (fun a u hb hs hl hd K hK => by
     have s49 := gD hd 5
     have g48 := vD hd 4
     clear hd
     refine step_yes rfl (j := 4) (d := 48) rfl rfl g48 ?_
     go_simp
     refine (c_sized (H.hh k).A (H.hh k).c (H.hh k).l _ (hz.hh k hlt)).mono ?_
     rintro e w3 ⟨rfl, hw3⟩
     obtain rfl := hw3.symm
     exact kE hK hs),
    (fun a u hb hs hl hd K hK => by have s48 := gD hd 4; have s50 := gD hd 6; have g45 := vD hd 1; clear hd; refine step_yes rfl (j := 1) (d := 45) rfl rfl g45 ?_; go_simp; exact kE hK hs),
    (stp rfl fun a u hb hs hl hd K hK => by have s45 := gD hd 1; have s51 := gD hd 7; clear hd; go_simp; exact kE hK hs),
    trivial⟩ ?_
  clear hs hd zl
  intro a w hb hs hd zl hh
  replace zl := lH hh 8 zl
  clear hh
  replace hB := bz_then hB hb
  clear hb
  show wpList _ _ _ [_] _ _
  refine tail_op rfl (fun K hK => ?_)
  have q52 := gL zl 0
  go_simp
  clear q52
  refine hK _ _ ?_
  clear hK K
  obtain ⟨s52, -, -, -, -, -, s3, s39, s40, -⟩ := zl
  refine act_put (d := 3) _ hs hd (by decide) [(39, _), (40, _), (52, _)] ⟨s39, s40, s52, trivial⟩ rfl ?_
  clear hs hd s3 s39 s40 s52
  intro a hs hd zl
  refine wp_region_list ?_
  show wpList _ _ _ [_, _] _ _
  refine tail_op rfl (fun K hK => ?_)
  have q40 := gL zl 2
  go_simp
  clear q40
  refine hK _ _ (tP hs hd zl ?_)
  clear hK K hs hd zl
  intro a hs hd zl
  refine tail_op rfl (fun K hK => ?_)
  have q53 := gL zl 0
  go_simp
  clear q53
  refine hK _ _ ?_
  clear hK K
  obtain ⟨s53, s3, s39, s40, -, -⟩ := zl
  refine act_put (d := 40) _ hs hd (by decide) [(3, _), (39, _), (53, _)] ⟨s3, s39, s53, trivial⟩ rfl ?_
  clear hs hd s3 s39 s40 s53
  intro a hs hd zl
  obtain ⟨s40, s3, s39, -, -⟩ := zl
  refine ⟨⟨k + 1, hs, hd, ⟨s3, s39, s40, trivial⟩, hlt, hB⟩, ?_⟩
  rw [s40]
  simp [intOf]
  omega
 obtain rfl : k = 8 := by omega
 have e1 : decide (8 < 8) = false := decide_eq_false (by omega)
 conv => arg 2; whnf
 refine wp_seq ?_
 refine wp_region_list ?_
 show wpList _ _ _ [_] _ _
 refine tail_op rfl (fun K hK => ?_)
 have q40 := gd s40
 go_simp
 clear q40
 refine hK _ _ ?_
 clear hK K
 refine act_put (d := 41) _ hs hd (by decide) [(3, _), (39, _), (40, _)] ⟨s3, s39, s40, trivial⟩ rfl ?_
 clear hs hd s3 s39 s40
 intro a hs hd zl
 refine wp_seq ?_
 refine wp_cond_false (vL zl 0) ?_
 refine wp_exit ?_
 obtain ⟨s41, s3, -, -, -⟩ := zl
 exact hQ a w hs hd ⟨s3, trivial⟩ hB
set_option maxHeartbeats 4000000 in
set_option maxRecDepth 100000 in
theorem c_Formed (H : Hd) (w : World) (hht : 0 < H.ht) (hz : H.sized) :
  Calls Tryd.prog 29 #[.agg H.cells] w fun e w' => e = .returned (.bool (formedB H)) ∧ Below w.heap.size w w' := by
 suffices h : ∀ w0, Below w0.heap.size w0 w → Calls Tryd.prog 29 #[.agg H.cells] w fun e w' => e = .returned (.bool (formedB H)) ∧ Below w0.heap.size w0 w' from h w (bz_refl w)
 intro w0 hB
 refine enter_abs Tryd.func29 rfl 55 rfl (by simp) ?_
 intro a hs hd hargs
 have s0 := hargs 0 _ rfl
 clear hargs
 refine wp_seq ?_
 refine wp_region_list ?_
 show wpList _ _ _ [_, _] _ _
 refine tail_op rfl (fun K hK => ?_)
 have q0 := gd s0
 go_simp
 clear q0
 refine hK _ _ ?_
 clear hK K
 refine act_put (d := 1) _ hs hd (by decide) [(0, _)] ⟨s0, trivial⟩ rfl ?_
 clear hs hd s0
 intro a hs hd zl
 obtain ⟨g, hE⟩ : ∃ B, Is w.heap.size B := is_self _
 generalize hw1 : World.alloc w _ = w1
 have hg : Blk w1 g 40 H.cells := by rw [← hw1, ← hE.out]; exact Blk.new w _ _
 have hB1 : Below w.heap.size w w1 := by rw [← hw1]; exact bz_alloc (bz_refl w) _
 replace hB := bz_then hB hB1
 obtain ⟨s1, s0, -⟩ := zl
 rw [hE.out] at s1
 clear hw1 hB1 hE
 refine tail_op rfl (fun K hK => ?_)
 go_simp
 refine hK _ _ ?_
 clear hK K
 refine act_put (d := 2) _ hs hd (by decide) [(0, _), (1, _)] ⟨s0, s1, trivial⟩ rfl ?_
 clear hs hd s0 s1
 intro a hs hd zl
 have c0 : w1.cell? ⟨g, 0, none⟩ = some (.int .i64 H.vb) := by rw [hg.cell]; rfl
 have c2 : w1.cell? ⟨g, 2, none⟩ = some (.string H.ch) := by rw [hg.cell]; rfl
 have c3 : w1.cell? ⟨g, 3, none⟩ = some (.int .i64 H.ht) := by rw [hg.cell]; rfl
 have c6 : w1.cell? ⟨g, 6, none⟩ = some (.slice (H.bh).A (H.bh).l.length (H.bh).c) := by rw [hg.cell]; rfl
 have c8 : w1.cell? ⟨g, 8, none⟩ = some (.slice (H.bp).A (H.bp).l.length (H.bp).c) := by rw [hg.cell]; rfl
 have c17 : w1.cell? ⟨g, 17, none⟩ = some (.string H.pr) := by rw [hg.cell]; rfl
 obtain ⟨bb, hbb⟩ : ∃ b, Is (formedB H) b := is_self _
 rw [hbb.out]
 refine wp_seq ?_
 by_cases h1 : H.vb = 11
 ·have e1 : (H.vb == 11) = true := by rw [h1]; rfl
  by_cases h2 : H.ch.size ≤ 50
  ·have e2 : decide (H.ch.size ≤ 50) = true := decide_eq_true h2
   have e2' : decide ((H.ch.size : Int) ≤ 50) = true := decide_eq_true (by omega)
   have e3 : decide (0 < H.ht) = true := decide_eq_true hht
   by_cases h3 : H.pr.size = 20
   ·have e5 : ((H.pr.size : Int) == 20) = true := by rw [beq_iff_eq]; omega
    have HH := Is.hid (And.intro h1 (And.intro h2 h3))
    refine fl2 [FItem.eq 6 _, FItem.eq 7 _, FItem.eq 8 _, FItem.eq 9 (.bool true), FItem.eq 10 _, FItem.eq 11 _, FItem.eq 12 _, FItem.eq 13 _, FItem.eq 14 _, FItem.eq 15 (.bool true), FItem.eq 16 _, FItem.eq 17 _, FItem.eq 18 _, FItem.eq 19 _, FItem.eq 20 (.bool true), FItem.eq 21 _, FItem.eq 22 _, FItem.eq 23 _, FItem.eq 24 _, FItem.eq 25 _, FItem.eq 26 (.bool true), FItem.eq 27 _, FItem.eq 28 _, FItem.eq 29 _, FItem.eq 30 _, FItem.eq 31 _, FItem.eq 32 (.bool true), FItem.eq 33 _, FItem.eq 34 _, FItem.eq 35 _, FItem.eq 36 _, FItem.eq 37 (.bool true)] 32 hs hd zl
     ⟨(stp rfl fun a u hb hs hl hd K hK => by have s1 := gL hl 2; clear hd; go_simp; exact kE hK hs),
      (stp rfl fun a u hb hs hl hd K hK => by have s6 := gD hd 0; have c0 := cell_up hb c0; have c2 := cell_up hb c2; have c3 := cell_up hb c3; have c6 := cell_up hb c6; have c8 := cell_up hb c8; have c17 := cell_up hb c17; clear hd; go_simp; exact kE hK hs),
      (stp rfl fun a u hb hs hl hd K hK => by have s7 := gD hd 1; clear hd; go_simp; exact kE hK hs),
      (stp rfl fun a u hb hs hl hd K hK => by have s8 := gD hd 2; clear hd; go_simp; exact kE hK hs),
      (fun a u hb hs hl hd K hK => by have s1 := gL hl 2; have g9 := vD hd 3; clear hd; refine step_yes rfl (j := 3) (d := 9) rfl rfl g9 ?_; go_simp; exact kE hK hs),
      (fun a u hb hs hl hd K hK => by have s10 := gD hd 4; have c0 := cell_up hb c0; have c2 := cell_up hb c2; have c3 := cell_up hb c3; have c6 := cell_up hb c6; have c8 := cell_up hb c8; have c17 := cell_up hb c17; have g9 := vD hd 3; clear hd; refine step_yes rfl (j := 3) (d := 9) rfl rfl g9 ?_; go_simp; exact kE hK hs),
      (fun a u hb hs hl hd K hK => by have s11 := gD hd 5; have g9 := vD hd 3; clear hd; refine step_yes rfl (j := 3) (d := 9) rfl rfl g9 ?_; go_simp; exact kE hK hs),
      (fun a u hb hs hl hd K hK => by have s12 := gD hd 6; have g9 := vD hd 3; clear hd; refine step_yes rfl (j := 3) (d := 9) rfl rfl g9 ?_; go_simp; exact kE hK hs),
      (stp rfl fun a u hb hs hl hd K hK => by have s9 := gD hd 3; have s13 := gD hd 7; clear hd; go_simp; exact kE hK hs),
      (stp rfl fun a u hb hs hl hd K hK => by have s14 := gD hd 8; clear hd; go_simp; exact kE hK hs),
      (fun a u hb hs hl hd K hK => by have s1 := gL hl 2; have g15 := vD hd 9; clear hd; refine step_yes rfl (j := 9) (d := 15) rfl rfl g15 ?_; go_simp; exact kE hK hs),
      (fun a u hb hs hl hd K hK => by have s16 := gD hd 10; have c0 := cell_up hb c0; have c2 := cell_up hb c2; have c3 := cell_up hb c3; have c6 := cell_up hb c6; have c8 := cell_up hb c8; have c17 := cell_up hb c17; have g15 := vD hd 9; clear hd; refine step_yes rfl (j := 9) (d := 15) rfl rfl g15 ?_; go_simp; exact kE hK hs),
      (fun a u hb hs hl hd K hK => by have s17 := gD hd 11; have g15 := vD hd 9; clear hd; refine step_yes rfl (j := 9) (d := 15) rfl rfl g15 ?_; go_simp; exact kE hK hs),
      (stp rfl fun a u hb hs hl hd K hK => by have s15 := gD hd 9; have s18 := gD hd 12; clear hd; go_simp; exact kE hK hs),
      (stp rfl fun a u hb hs hl hd K hK => by have s19 := gD hd 13; clear hd; go_simp; exact kE hK hs),
      (fun a u hb hs hl hd K hK => by have s1 := gL hl 2; have g20 := vD hd 14; clear hd; refine step_yes rfl (j := 14) (d := 20) rfl rfl g20 ?_; go_simp; exact kE hK hs),
      (fun a u hb hs hl hd K hK => by have s21 := gD hd 15; have c0 := cell_up hb c0; have c2 := cell_up hb c2; have c3 := cell_up hb c3; have c6 := cell_up hb c6; have c8 := cell_up hb c8; have c17 := cell_up hb c17; have g20 := vD hd 14; clear hd; refine step_yes rfl (j := 14) (d := 20) rfl rfl g20 ?_; go_simp; exact kE hK hs),
      (fun a u hb hs hl hd K hK => by have s22 := gD hd 16; have g20 := vD hd 14; clear hd; refine step_yes rfl (j := 14) (d := 20) rfl rfl g20 ?_; go_simp; exact kE hK hs),
      (fun a u hb hs hl hd K hK => by have s23 := gD hd 17; have g20 := vD hd 14; clear hd; refine step_yes rfl (j := 14) (d := 20) rfl rfl g20 ?_; go_simp; exact kE hK hs),
      (stp rfl fun a u hb hs hl hd K hK => by have s20 := gD hd 14; have s24 := gD hd 18; clear hd; go_simp; exact kE hK hs),
      (stp rfl fun a u hb hs hl hd K hK => by have s25 := gD hd 19; clear hd; go_simp; exact kE hK hs),
      (fun a u hb hs hl hd K hK => by have s1 := gL hl 2; have g26 := vD hd 20; clear hd; refine step_yes rfl (j := 20) (d := 26) rfl rfl g26 ?_; go_simp; exact kE hK hs),
      (fun a u hb hs hl hd K hK => by have s27 := gD hd 21; have g26 := vD hd 20; clear hd; refine step_yes rfl (j := 20) (d := 26) rfl rfl g26 ?_; go_simp; exact kE hK hs),
      (fun a u hb hs hl hd K hK => by have s28 := gD hd 22; have c0 := cell_up hb c0; have c2 := cell_up hb c2; have c3 := cell_up hb c3; have c6 := cell_up hb c6; have c8 := cell_up hb c8; have c17 := cell_up hb c17; have g26 := vD hd 20; clear hd; refine step_yes rfl (j := 20) (d := 26) rfl rfl g26 ?_; go_simp; exact kE hK hs),
      (fun a u hb hs hl hd K hK => by
       have s29 := gD hd 23
       have c0 := cell_up hb c0
       have c2 := cell_up hb c2
       have c3 := cell_up hb c3
       have c6 := cell_up hb c6
       have c8 := cell_up hb c8
       have c17 := cell_up hb c17
       have g26 := vD hd 20
       clear hd
       refine step_yes rfl (j := 20) (d := 26) rfl rfl g26 ?_
       go_simp
       refine (c_sized (H.bh).A (H.bh).c (H.bh).l _ (hz.bh)).mono ?_
       rintro e w3 ⟨rfl, hw3⟩
       obtain rfl := hw3.symm
       exact kE hK hs),
      (stp rfl fun a u hb hs hl hd K hK => by have s26 := gD hd 20; have s30 := gD hd 24; clear hd; go_simp; exact kE hK hs),
      (stp rfl fun a u hb hs hl hd K hK => by have s31 := gD hd 25; clear hd; go_simp; exact kE hK hs),
      (fun a u hb hs hl hd K hK => by have s1 := gL hl 2; have g32 := vD hd 26; clear hd; refine step_yes rfl (j := 26) (d := 32) rfl rfl g32 ?_; go_simp; exact kE hK hs),
      (fun a u hb hs hl hd K hK => by have s33 := gD hd 27; have g32 := vD hd 26; clear hd; refine step_yes rfl (j := 26) (d := 32) rfl rfl g32 ?_; go_simp; exact kE hK hs),
      (fun a u hb hs hl hd K hK => by have s34 := gD hd 28; have c0 := cell_up hb c0; have c2 := cell_up hb c2; have c3 := cell_up hb c3; have c6 := cell_up hb c6; have c8 := cell_up hb c8; have c17 := cell_up hb c17; have g32 := vD hd 26; clear hd; refine step_yes rfl (j := 26) (d := 32) rfl rfl g32 ?_; go_simp; exact kE hK hs),
      (fun a u hb hs hl hd K hK => by
       have s35 := gD hd 29
       have c0 := cell_up hb c0
       have c2 := cell_up hb c2
       have c3 := cell_up hb c3
       have c6 := cell_up hb c6
       have c8 := cell_up hb c8
       have c17 := cell_up hb c17
       have g32 := vD hd 26
       clear hd
       refine step_yes rfl (j := 26) (d := 32) rfl rfl g32 ?_
       go_simp
       refine (c_sized (H.bp).A (H.bp).c (H.bp).l _ (hz.bp)).mono ?_
       rintro e w3 ⟨rfl, hw3⟩
       obtain rfl := hw3.symm
       exact kE hK hs),
      (stp rfl fun a u hb hs hl hd K hK => by have s32 := gD hd 26; have s36 := gD hd 30; clear hd; go_simp; exact kE hK hs),
      trivial⟩ ?_
    clear hs hd zl
    intro a w hb hs hd zl hh
    replace zl := lH hh 31 zl
    clear hh
    replace hg := hg.after hb
    replace c0 := cell_up hb c0
    replace c2 := cell_up hb c2
    replace c3 := cell_up hb c3
    replace c6 := cell_up hb c6
    replace c8 := cell_up hb c8
    replace c17 := cell_up hb c17
    replace hB := bz_then hB hb
    clear hb
    show wpList _ _ _ [_] _ _
    refine tail_op rfl (fun K hK => ?_)
    have q37 := gL zl 0
    go_simp
    clear q37
    refine hK _ _ (tP hs hd zl ?_)
    clear hK K hs hd zl
    intro a hs hd zl
    have hbv : bb = true := by rw [← hbb.out]; simp [formedB, h1, h2, h3]
    clear c0 c2 c3 c6 c8 c17
    refine wp_seq ?_
    refine wp_seq ?_
    refine wp_region_list ?_
    show wpList _ _ _ [_, _, _] _ _
    refine tail_op rfl (fun K hK => ?_)
    have q1 := gL zl 4
    go_simp
    clear q1
    refine hK _ _ (tP hs hd zl ?_)
    clear hK K hs hd zl
    intro a hs hd zl
    refine tail_op rfl (fun K hK => ?_)
    have q38 := gL zl 0
    have s38 := vL zl 0
    refine op_load_part 31 (.tmp 38) rfl g 9 s38 _ _ #[(H.hh 0).v, (H.hh 1).v, (H.hh 2).v, (H.hh 3).v, (H.hh 4).v, (H.hh 5).v, (H.hh 6).v, (H.hh 7).v] _ hg (show (9 + 8 : Nat) ≤ 18 by decide) rfl rfl (by kernel_rfl) rfl ?_
    clear q38
    refine hK _ _ (tP hs hd zl ?_)
    clear hK K hs hd zl s38
    intro a hs hd zl
    refine tail_op rfl (fun K hK => ?_)
    go_simp
    refine hK _ _ (tP hs hd zl ?_)
    clear hK K hs hd zl
    intro a hs hd zl
    refine wp_block ?_
    have s3 := vL zl 3
    have s39 := vL zl 1
    have s40 := vL zl 0
    refine fm_loop (H := H) (w0 := w0) a _ hs hd hz s3 s39 s40 hB ?_
    clear hs hd s3 s39 s40 hB hg
    obtain ⟨-, -, -, -, -, -, -, -, -⟩ := zl
    rintro a w hs hd ⟨s3, -⟩ hB
    refine inBlock_exit ?_
    refine wp_seq ?_
    refine wp_region_list ?_
    show wpList _ _ _ [_, _] _ _
    refine tail_op rfl (fun K hK => ?_)
    have q3 := gd s3
    go_simp
    clear q3
    refine hK _ _ ?_
    clear hK K
    refine act_put (d := 54) _ hs hd (by decide) [(3, _)] ⟨s3, trivial⟩ rfl ?_
    clear hs hd s3
    intro a hs hd zl
    refine tail_op rfl (fun K hK => ?_)
    have q54 := gL zl 0
    go_simp
    clear q54
    refine hK _ _ (tP hs hd zl ?_)
    clear hK K hs hd zl
    intro a hs hd zl
    refine wp_ret ?_
    exact end_tmp rfl hd (vL zl 0) ⟨by rw [hbv], hB⟩
   ·have e5 : ((H.pr.size : Int) == 20) = false := by rw [beq_eq_false_iff_ne]; omega
    refine fl2 [FItem.eq 6 _, FItem.eq 7 _, FItem.eq 8 _, FItem.eq 9 (.bool true), FItem.eq 10 _, FItem.eq 11 _, FItem.eq 12 _, FItem.eq 13 _, FItem.eq 14 _, FItem.eq 15 (.bool true), FItem.eq 16 _, FItem.eq 17 _, FItem.eq 18 _, FItem.eq 19 _, FItem.eq 20 (.bool true), FItem.eq 21 _, FItem.eq 22 _, FItem.eq 23 _, FItem.eq 24 _, FItem.eq 25 _, FItem.eq 26 (.bool false), FItem.eq 27 _, FItem.eq 28 _, FItem.eq 29 _, FItem.eq 30 _, FItem.eq 31 _, FItem.eq 32 (.bool false), FItem.eq 33 _, FItem.eq 34 _, FItem.eq 35 _, FItem.eq 36 _, FItem.eq 37 (.bool false)] 32 hs hd zl
     ⟨(stp rfl fun a u hb hs hl hd K hK => by have s1 := gL hl 2; clear hd; go_simp; exact kE hK hs),
      (stp rfl fun a u hb hs hl hd K hK => by have s6 := gD hd 0; have c0 := cell_up hb c0; have c2 := cell_up hb c2; have c3 := cell_up hb c3; have c6 := cell_up hb c6; have c8 := cell_up hb c8; have c17 := cell_up hb c17; clear hd; go_simp; exact kE hK hs),
      (stp rfl fun a u hb hs hl hd K hK => by have s7 := gD hd 1; clear hd; go_simp; exact kE hK hs),
      (stp rfl fun a u hb hs hl hd K hK => by have s8 := gD hd 2; clear hd; go_simp; exact kE hK hs),
      (fun a u hb hs hl hd K hK => by have s1 := gL hl 2; have g9 := vD hd 3; clear hd; refine step_yes rfl (j := 3) (d := 9) rfl rfl g9 ?_; go_simp; exact kE hK hs),
      (fun a u hb hs hl hd K hK => by have s10 := gD hd 4; have c0 := cell_up hb c0; have c2 := cell_up hb c2; have c3 := cell_up hb c3; have c6 := cell_up hb c6; have c8 := cell_up hb c8; have c17 := cell_up hb c17; have g9 := vD hd 3; clear hd; refine step_yes rfl (j := 3) (d := 9) rfl rfl g9 ?_; go_simp; exact kE hK hs),
      (fun a u hb hs hl hd K hK => by have s11 := gD hd 5; have g9 := vD hd 3; clear hd; refine step_yes rfl (j := 3) (d := 9) rfl rfl g9 ?_; go_simp; exact kE hK hs),
      (fun a u hb hs hl hd K hK => by have s12 := gD hd 6; have g9 := vD hd 3; clear hd; refine step_yes rfl (j := 3) (d := 9) rfl rfl g9 ?_; go_simp; exact kE hK hs),
      (stp rfl fun a u hb hs hl hd K hK => by have s9 := gD hd 3; have s13 := gD hd 7; clear hd; go_simp; exact kE hK hs),
      (stp rfl fun a u hb hs hl hd K hK => by have s14 := gD hd 8; clear hd; go_simp; exact kE hK hs),
      (fun a u hb hs hl hd K hK => by have s1 := gL hl 2; have g15 := vD hd 9; clear hd; refine step_yes rfl (j := 9) (d := 15) rfl rfl g15 ?_; go_simp; exact kE hK hs),
      (fun a u hb hs hl hd K hK => by have s16 := gD hd 10; have c0 := cell_up hb c0; have c2 := cell_up hb c2; have c3 := cell_up hb c3; have c6 := cell_up hb c6; have c8 := cell_up hb c8; have c17 := cell_up hb c17; have g15 := vD hd 9; clear hd; refine step_yes rfl (j := 9) (d := 15) rfl rfl g15 ?_; go_simp; exact kE hK hs),
      (fun a u hb hs hl hd K hK => by have s17 := gD hd 11; have g15 := vD hd 9; clear hd; refine step_yes rfl (j := 9) (d := 15) rfl rfl g15 ?_; go_simp; exact kE hK hs),
      (stp rfl fun a u hb hs hl hd K hK => by have s15 := gD hd 9; have s18 := gD hd 12; clear hd; go_simp; exact kE hK hs),
      (stp rfl fun a u hb hs hl hd K hK => by have s19 := gD hd 13; clear hd; go_simp; exact kE hK hs),
      (fun a u hb hs hl hd K hK => by have s1 := gL hl 2; have g20 := vD hd 14; clear hd; refine step_yes rfl (j := 14) (d := 20) rfl rfl g20 ?_; go_simp; exact kE hK hs),
      (fun a u hb hs hl hd K hK => by have s21 := gD hd 15; have c0 := cell_up hb c0; have c2 := cell_up hb c2; have c3 := cell_up hb c3; have c6 := cell_up hb c6; have c8 := cell_up hb c8; have c17 := cell_up hb c17; have g20 := vD hd 14; clear hd; refine step_yes rfl (j := 14) (d := 20) rfl rfl g20 ?_; go_simp; exact kE hK hs),
      (fun a u hb hs hl hd K hK => by have s22 := gD hd 16; have g20 := vD hd 14; clear hd; refine step_yes rfl (j := 14) (d := 20) rfl rfl g20 ?_; go_simp; exact kE hK hs),
      (fun a u hb hs hl hd K hK => by have s23 := gD hd 17; have g20 := vD hd 14; clear hd; refine step_yes rfl (j := 14) (d := 20) rfl rfl g20 ?_; go_simp; exact kE hK hs),
      (stp rfl fun a u hb hs hl hd K hK => by have s20 := gD hd 14; have s24 := gD hd 18; clear hd; go_simp; exact kE hK hs),
      (stp rfl fun a u hb hs hl hd K hK => by have s25 := gD hd 19; clear hd; go_simp; exact kE hK hs),
      (fun a u hb hs hl hd K hK => by have s1 := gL hl 2; have g26 := vD hd 20; clear hd; refine step_no rfl (j := 20) (d := 26) rfl rfl g26 (by decide) ?_; exact kE hK hs),
      (fun a u hb hs hl hd K hK => by have s27 := gD hd 21; have g26 := vD hd 20; clear hd; refine step_no rfl (j := 20) (d := 26) rfl rfl g26 (by decide) ?_; exact kE hK hs),
      (fun a u hb hs hl hd K hK => by have s28 := gD hd 22; have c0 := cell_up hb c0; have c2 := cell_up hb c2; have c3 := cell_up hb c3; have c6 := cell_up hb c6; have c8 := cell_up hb c8; have c17 := cell_up hb c17; have g26 := vD hd 20; clear hd; refine step_no rfl (j := 20) (d := 26) rfl rfl g26 (by decide) ?_; exact kE hK hs),
      (fun a u hb hs hl hd K hK => by have s29 := gD hd 23; have g26 := vD hd 20; clear hd; refine step_no rfl (j := 20) (d := 26) rfl rfl g26 (by decide) ?_; exact kE hK hs),
      (stp rfl fun a u hb hs hl hd K hK => by have s26 := gD hd 20; have s30 := gD hd 24; clear hd; go_simp; exact kE hK hs),
      (stp rfl fun a u hb hs hl hd K hK => by have s31 := gD hd 25; clear hd; go_simp; exact kE hK hs),
      (fun a u hb hs hl hd K hK => by have s1 := gL hl 2; have g32 := vD hd 26; clear hd; refine step_no rfl (j := 26) (d := 32) rfl rfl g32 (by decide) ?_; exact kE hK hs),
      (fun a u hb hs hl hd K hK => by have s33 := gD hd 27; have g32 := vD hd 26; clear hd; refine step_no rfl (j := 26) (d := 32) rfl rfl g32 (by decide) ?_; exact kE hK hs),
      (fun a u hb hs hl hd K hK => by have s34 := gD hd 28; have c0 := cell_up hb c0; have c2 := cell_up hb c2; have c3 := cell_up hb c3; have c6 := cell_up hb c6; have c8 := cell_up hb c8; have c17 := cell_up hb c17; have g32 := vD hd 26; clear hd; refine step_no rfl (j := 26) (d := 32) rfl rfl g32 (by decide) ?_; exact kE hK hs),
      (fun a u hb hs hl hd K hK => by have s35 := gD hd 29; have g32 := vD hd 26; clear hd; refine step_no rfl (j := 26) (d := 32) rfl rfl g32 (by decide) ?_; exact kE hK hs),
      (stp rfl fun a u hb hs hl hd K hK => by have s32 := gD hd 26; have s36 := gD hd 30; clear hd; go_simp; exact kE hK hs),
      trivial⟩ ?_
    clear hs hd zl
    intro a w hb hs hd zl hh
    replace zl := lH hh 31 zl
    clear hh
    replace hg := hg.after hb
    replace c0 := cell_up hb c0
    replace c2 := cell_up hb c2
    replace c3 := cell_up hb c3
    replace c6 := cell_up hb c6
    replace c8 := cell_up hb c8
    replace c17 := cell_up hb c17
    replace hB := bz_then hB hb
    clear hb
    show wpList _ _ _ [_] _ _
    refine tail_op rfl (fun K hK => ?_)
    have q37 := gL zl 0
    go_simp
    clear q37
    refine hK _ _ (tP hs hd zl ?_)
    clear hK K hs hd zl
    intro a hs hd zl
    have hbv : bb = false := by rw [← hbb.out]; simp [formedB, h3]
    clear c0 c2 c3 c6 c8 c17
    refine wp_seq ?_
    refine wp_seq ?_
    refine wp_region_list ?_
    show wpList _ _ _ [_, _, _] _ _
    refine tail_op rfl (fun K hK => ?_)
    have q1 := gL zl 4
    go_simp
    clear q1
    refine hK _ _ (tP hs hd zl ?_)
    clear hK K hs hd zl
    intro a hs hd zl
    refine tail_op rfl (fun K hK => ?_)
    have q38 := gL zl 0
    have s38 := vL zl 0
    refine op_load_part 31 (.tmp 38) rfl g 9 s38 _ _ #[(H.hh 0).v, (H.hh 1).v, (H.hh 2).v, (H.hh 3).v, (H.hh 4).v, (H.hh 5).v, (H.hh 6).v, (H.hh 7).v] _ hg (show (9 + 8 : Nat) ≤ 18 by decide) rfl rfl (by kernel_rfl) rfl ?_
    clear q38
    refine hK _ _ (tP hs hd zl ?_)
    clear hK K hs hd zl s38
    intro a hs hd zl
    refine tail_op rfl (fun K hK => ?_)
    go_simp
    refine hK _ _ (tP hs hd zl ?_)
    clear hK K hs hd zl
    intro a hs hd zl
    refine wp_block ?_
    have s3 := vL zl 3
    have s39 := vL zl 1
    have s40 := vL zl 0
    refine fm_loop (H := H) (w0 := w0) a _ hs hd hz s3 s39 s40 hB ?_
    clear hs hd s3 s39 s40 hB hg
    obtain ⟨-, -, -, -, -, -, -, -, -⟩ := zl
    rintro a w hs hd ⟨s3, -⟩ hB
    refine inBlock_exit ?_
    refine wp_seq ?_
    refine wp_region_list ?_
    show wpList _ _ _ [_, _] _ _
    refine tail_op rfl (fun K hK => ?_)
    have q3 := gd s3
    go_simp
    clear q3
    refine hK _ _ ?_
    clear hK K
    refine act_put (d := 54) _ hs hd (by decide) [(3, _)] ⟨s3, trivial⟩ rfl ?_
    clear hs hd s3
    intro a hs hd zl
    refine tail_op rfl (fun K hK => ?_)
    have q54 := gL zl 0
    go_simp
    clear q54
    refine hK _ _ (tP hs hd zl ?_)
    clear hK K hs hd zl
    intro a hs hd zl
    refine wp_ret ?_
    exact end_tmp rfl hd (vL zl 0) ⟨by rw [hbv], hB⟩
  ·have e2 : decide (H.ch.size ≤ 50) = false := decide_eq_false h2
   have e2' : decide ((H.ch.size : Int) ≤ 50) = false := decide_eq_false (by omega)
   refine fl2 [FItem.eq 6 _, FItem.eq 7 _, FItem.eq 8 _, FItem.eq 9 (.bool true), FItem.eq 10 _, FItem.eq 11 _, FItem.eq 12 _, FItem.eq 13 _, FItem.eq 14 _, FItem.eq 15 (.bool false), FItem.eq 16 _, FItem.eq 17 _, FItem.eq 18 _, FItem.eq 19 _, FItem.eq 20 (.bool false), FItem.eq 21 _, FItem.eq 22 _, FItem.eq 23 _, FItem.eq 24 _, FItem.eq 25 _, FItem.eq 26 (.bool false), FItem.eq 27 _, FItem.eq 28 _, FItem.eq 29 _, FItem.eq 30 _, FItem.eq 31 _, FItem.eq 32 (.bool false), FItem.eq 33 _, FItem.eq 34 _, FItem.eq 35 _, FItem.eq 36 _, FItem.eq 37 (.bool false)] 32 hs hd zl
    ⟨(stp rfl fun a u hb hs hl hd K hK => by have s1 := gL hl 2; clear hd; go_simp; exact kE hK hs),
     (stp rfl fun a u hb hs hl hd K hK => by have s6 := gD hd 0; have c0 := cell_up hb c0; have c2 := cell_up hb c2; have c3 := cell_up hb c3; have c6 := cell_up hb c6; have c8 := cell_up hb c8; have c17 := cell_up hb c17; clear hd; go_simp; exact kE hK hs),
     (stp rfl fun a u hb hs hl hd K hK => by have s7 := gD hd 1; clear hd; go_simp; exact kE hK hs),
     (stp rfl fun a u hb hs hl hd K hK => by have s8 := gD hd 2; clear hd; go_simp; exact kE hK hs),
     (fun a u hb hs hl hd K hK => by have s1 := gL hl 2; have g9 := vD hd 3; clear hd; refine step_yes rfl (j := 3) (d := 9) rfl rfl g9 ?_; go_simp; exact kE hK hs),
     (fun a u hb hs hl hd K hK => by have s10 := gD hd 4; have c0 := cell_up hb c0; have c2 := cell_up hb c2; have c3 := cell_up hb c3; have c6 := cell_up hb c6; have c8 := cell_up hb c8; have c17 := cell_up hb c17; have g9 := vD hd 3; clear hd; refine step_yes rfl (j := 3) (d := 9) rfl rfl g9 ?_; go_simp; exact kE hK hs),
     (fun a u hb hs hl hd K hK => by have s11 := gD hd 5; have g9 := vD hd 3; clear hd; refine step_yes rfl (j := 3) (d := 9) rfl rfl g9 ?_; go_simp; exact kE hK hs),
     (fun a u hb hs hl hd K hK => by have s12 := gD hd 6; have g9 := vD hd 3; clear hd; refine step_yes rfl (j := 3) (d := 9) rfl rfl g9 ?_; go_simp; exact kE hK hs),
     (stp rfl fun a u hb hs hl hd K hK => by have s9 := gD hd 3; have s13 := gD hd 7; clear hd; go_simp; exact kE hK hs),
     (stp rfl fun a u hb hs hl hd K hK => by have s14 := gD hd 8; clear hd; go_simp; exact kE hK hs),
     (fun a u hb hs hl hd K hK => by have s1 := gL hl 2; have g15 := vD hd 9; clear hd; refine step_no rfl (j := 9) (d := 15) rfl rfl g15 (by decide) ?_; exact kE hK hs),
     (fun a u hb hs hl hd K hK => by have s16 := gD hd 10; have c0 := cell_up hb c0; have c2 := cell_up hb c2; have c3 := cell_up hb c3; have c6 := cell_up hb c6; have c8 := cell_up hb c8; have c17 := cell_up hb c17; have g15 := vD hd 9; clear hd; refine step_no rfl (j := 9) (d := 15) rfl rfl g15 (by decide) ?_; exact kE hK hs),
     (fun a u hb hs hl hd K hK => by have s17 := gD hd 11; have g15 := vD hd 9; clear hd; refine step_no rfl (j := 9) (d := 15) rfl rfl g15 (by decide) ?_; exact kE hK hs),
     (stp rfl fun a u hb hs hl hd K hK => by have s15 := gD hd 9; have s18 := gD hd 12; clear hd; go_simp; exact kE hK hs),
     (stp rfl fun a u hb hs hl hd K hK => by have s19 := gD hd 13; clear hd; go_simp; exact kE hK hs),
     (fun a u hb hs hl hd K hK => by have s1 := gL hl 2; have g20 := vD hd 14; clear hd; refine step_no rfl (j := 14) (d := 20) rfl rfl g20 (by decide) ?_; exact kE hK hs),
     (fun a u hb hs hl hd K hK => by have s21 := gD hd 15; have c0 := cell_up hb c0; have c2 := cell_up hb c2; have c3 := cell_up hb c3; have c6 := cell_up hb c6; have c8 := cell_up hb c8; have c17 := cell_up hb c17; have g20 := vD hd 14; clear hd; refine step_no rfl (j := 14) (d := 20) rfl rfl g20 (by decide) ?_; exact kE hK hs),
     (fun a u hb hs hl hd K hK => by have s22 := gD hd 16; have g20 := vD hd 14; clear hd; refine step_no rfl (j := 14) (d := 20) rfl rfl g20 (by decide) ?_; exact kE hK hs),
     (fun a u hb hs hl hd K hK => by have s23 := gD hd 17; have g20 := vD hd 14; clear hd; refine step_no rfl (j := 14) (d := 20) rfl rfl g20 (by decide) ?_; exact kE hK hs),
     (stp rfl fun a u hb hs hl hd K hK => by have s20 := gD hd 14; have s24 := gD hd 18; clear hd; go_simp; exact kE hK hs),
     (stp rfl fun a u hb hs hl hd K hK => by have s25 := gD hd 19; clear hd; go_simp; exact kE hK hs),
     (fun a u hb hs hl hd K hK => by have s1 := gL hl 2; have g26 := vD hd 20; clear hd; refine step_no rfl (j := 20) (d := 26) rfl rfl g26 (by decide) ?_; exact kE hK hs),
     (fun a u hb hs hl hd K hK => by have s27 := gD hd 21; have g26 := vD hd 20; clear hd; refine step_no rfl (j := 20) (d := 26) rfl rfl g26 (by decide) ?_; exact kE hK hs),
     (fun a u hb hs hl hd K hK => by have s28 := gD hd 22; have c0 := cell_up hb c0; have c2 := cell_up hb c2; have c3 := cell_up hb c3; have c6 := cell_up hb c6; have c8 := cell_up hb c8; have c17 := cell_up hb c17; have g26 := vD hd 20; clear hd; refine step_no rfl (j := 20) (d := 26) rfl rfl g26 (by decide) ?_; exact kE hK hs),
     (fun a u hb hs hl hd K hK => by have s29 := gD hd 23; have g26 := vD hd 20; clear hd; refine step_no rfl (j := 20) (d := 26) rfl rfl g26 (by decide) ?_; exact kE hK hs),
     (stp rfl fun a u hb hs hl hd K hK => by have s26 := gD hd 20; have s30 := gD hd 24; clear hd; go_simp; exact kE hK hs),
     (stp rfl fun a u hb hs hl hd K hK => by have s31 := gD hd 25; clear hd; go_simp; exact kE hK hs),
     (fun a u hb hs hl hd K hK => by have s1 := gL hl 2; have g32 := vD hd 26; clear hd; refine step_no rfl (j := 26) (d := 32) rfl rfl g32 (by decide) ?_; exact kE hK hs),
     (fun a u hb hs hl hd K hK => by have s33 := gD hd 27; have g32 := vD hd 26; clear hd; refine step_no rfl (j := 26) (d := 32) rfl rfl g32 (by decide) ?_; exact kE hK hs),
     (fun a u hb hs hl hd K hK => by have s34 := gD hd 28; have c0 := cell_up hb c0; have c2 := cell_up hb c2; have c3 := cell_up hb c3; have c6 := cell_up hb c6; have c8 := cell_up hb c8; have c17 := cell_up hb c17; have g32 := vD hd 26; clear hd; refine step_no rfl (j := 26) (d := 32) rfl rfl g32 (by decide) ?_; exact kE hK hs),
     (fun a u hb hs hl hd K hK => by have s35 := gD hd 29; have g32 := vD hd 26; clear hd; refine step_no rfl (j := 26) (d := 32) rfl rfl g32 (by decide) ?_; exact kE hK hs),
     (stp rfl fun a u hb hs hl hd K hK => by have s32 := gD hd 26; have s36 := gD hd 30; clear hd; go_simp; exact kE hK hs),
     trivial⟩ ?_
   clear hs hd zl
   intro a w hb hs hd zl hh
   replace zl := lH hh 31 zl
   clear hh
   replace hg := hg.after hb
   replace c0 := cell_up hb c0
   replace c2 := cell_up hb c2
   replace c3 := cell_up hb c3
   replace c6 := cell_up hb c6
   replace c8 := cell_up hb c8
   replace c17 := cell_up hb c17
   replace hB := bz_then hB hb
   clear hb
   show wpList _ _ _ [_] _ _
   refine tail_op rfl (fun K hK => ?_)
   have q37 := gL zl 0
   go_simp
   clear q37
   refine hK _ _ (tP hs hd zl ?_)
   clear hK K hs hd zl
   intro a hs hd zl
   have hbv : bb = false := by rw [← hbb.out]; simp [formedB, h2]
   clear c0 c2 c3 c6 c8 c17
   refine wp_seq ?_
   refine wp_seq ?_
   refine wp_region_list ?_
   show wpList _ _ _ [_, _, _] _ _
   refine tail_op rfl (fun K hK => ?_)
   have q1 := gL zl 4
   go_simp
   clear q1
   refine hK _ _ (tP hs hd zl ?_)
   clear hK K hs hd zl
   intro a hs hd zl
   refine tail_op rfl (fun K hK => ?_)
   have q38 := gL zl 0
   have s38 := vL zl 0
   refine op_load_part 31 (.tmp 38) rfl g 9 s38 _ _ #[(H.hh 0).v, (H.hh 1).v, (H.hh 2).v, (H.hh 3).v, (H.hh 4).v, (H.hh 5).v, (H.hh 6).v, (H.hh 7).v] _ hg (show (9 + 8 : Nat) ≤ 18 by decide) rfl rfl (by kernel_rfl) rfl ?_
   clear q38
   refine hK _ _ (tP hs hd zl ?_)
   clear hK K hs hd zl s38
   intro a hs hd zl
   refine tail_op rfl (fun K hK => ?_)
   go_simp
   refine hK _ _ (tP hs hd zl ?_)
   clear hK K hs hd zl
   intro a hs hd zl
   refine wp_block ?_
   have s3 := vL zl 3
   have s39 := vL zl 1
   have s40 := vL zl 0
   refine fm_loop (H := H) (w0 := w0) a _ hs hd hz s3 s39 s40 hB ?_
   clear hs hd s3 s39 s40 hB hg
   obtain ⟨-, -, -, -, -, -, -, -, -⟩ := zl
   rintro a w hs hd ⟨s3, -⟩ hB
   refine inBlock_exit ?_
   refine wp_seq ?_
   refine wp_region_list ?_
   show wpList _ _ _ [_, _] _ _
   refine tail_op rfl (fun K hK => ?_)
   have q3 := gd s3
   go_simp
   clear q3
   refine hK _ _ ?_
   clear hK K
   refine act_put (d := 54) _ hs hd (by decide) [(3, _)] ⟨s3, trivial⟩ rfl ?_
   clear hs hd s3
   intro a hs hd zl
   refine tail_op rfl (fun K hK => ?_)
   have q54 := gL zl 0
   go_simp
   clear q54
   refine hK _ _ (tP hs hd zl ?_)
   clear hK K hs hd zl
   intro a hs hd zl
   refine wp_ret ?_
   exact end_tmp rfl hd (vL zl 0) ⟨by rw [hbv], hB⟩
 ·have e1 : (H.vb == 11) = false := by rw [beq_eq_false_iff_ne]; exact h1
  refine fl2 [FItem.eq 6 _, FItem.eq 7 _, FItem.eq 8 _, FItem.eq 9 (.bool false), FItem.eq 10 _, FItem.eq 11 _, FItem.eq 12 _, FItem.eq 13 _, FItem.eq 14 _, FItem.eq 15 (.bool false), FItem.eq 16 _, FItem.eq 17 _, FItem.eq 18 _, FItem.eq 19 _, FItem.eq 20 (.bool false), FItem.eq 21 _, FItem.eq 22 _, FItem.eq 23 _, FItem.eq 24 _, FItem.eq 25 _, FItem.eq 26 (.bool false), FItem.eq 27 _, FItem.eq 28 _, FItem.eq 29 _, FItem.eq 30 _, FItem.eq 31 _, FItem.eq 32 (.bool false), FItem.eq 33 _, FItem.eq 34 _, FItem.eq 35 _, FItem.eq 36 _, FItem.eq 37 (.bool false)] 32 hs hd zl
   ⟨(stp rfl fun a u hb hs hl hd K hK => by have s1 := gL hl 2; clear hd; go_simp; exact kE hK hs),
    (stp rfl fun a u hb hs hl hd K hK => by have s6 := gD hd 0; have c0 := cell_up hb c0; have c2 := cell_up hb c2; have c3 := cell_up hb c3; have c6 := cell_up hb c6; have c8 := cell_up hb c8; have c17 := cell_up hb c17; clear hd; go_simp; exact kE hK hs),
    (stp rfl fun a u hb hs hl hd K hK => by have s7 := gD hd 1; clear hd; go_simp; exact kE hK hs),
    (stp rfl fun a u hb hs hl hd K hK => by have s8 := gD hd 2; clear hd; go_simp; exact kE hK hs),
    (fun a u hb hs hl hd K hK => by have s1 := gL hl 2; have g9 := vD hd 3; clear hd; refine step_no rfl (j := 3) (d := 9) rfl rfl g9 (by decide) ?_; exact kE hK hs),
    (fun a u hb hs hl hd K hK => by have s10 := gD hd 4; have c0 := cell_up hb c0; have c2 := cell_up hb c2; have c3 := cell_up hb c3; have c6 := cell_up hb c6; have c8 := cell_up hb c8; have c17 := cell_up hb c17; have g9 := vD hd 3; clear hd; refine step_no rfl (j := 3) (d := 9) rfl rfl g9 (by decide) ?_; exact kE hK hs),
    (fun a u hb hs hl hd K hK => by have s11 := gD hd 5; have g9 := vD hd 3; clear hd; refine step_no rfl (j := 3) (d := 9) rfl rfl g9 (by decide) ?_; exact kE hK hs),
    (fun a u hb hs hl hd K hK => by have s12 := gD hd 6; have g9 := vD hd 3; clear hd; refine step_no rfl (j := 3) (d := 9) rfl rfl g9 (by decide) ?_; exact kE hK hs),
    (stp rfl fun a u hb hs hl hd K hK => by have s9 := gD hd 3; have s13 := gD hd 7; clear hd; go_simp; exact kE hK hs),
    (stp rfl fun a u hb hs hl hd K hK => by have s14 := gD hd 8; clear hd; go_simp; exact kE hK hs),
    (fun a u hb hs hl hd K hK => by have s1 := gL hl 2; have g15 := vD hd 9; clear hd; refine step_no rfl (j := 9) (d := 15) rfl rfl g15 (by decide) ?_; exact kE hK hs),
    (fun a u hb hs hl hd K hK => by have s16 := gD hd 10; have c0 := cell_up hb c0; have c2 := cell_up hb c2; have c3 := cell_up hb c3; have c6 := cell_up hb c6; have c8 := cell_up hb c8; have c17 := cell_up hb c17; have g15 := vD hd 9; clear hd; refine step_no rfl (j := 9) (d := 15) rfl rfl g15 (by decide) ?_; exact kE hK hs),
    (fun a u hb hs hl hd K hK => by have s17 := gD hd 11; have g15 := vD hd 9; clear hd; refine step_no rfl (j := 9) (d := 15) rfl rfl g15 (by decide) ?_; exact kE hK hs),
    (stp rfl fun a u hb hs hl hd K hK => by have s15 := gD hd 9; have s18 := gD hd 12; clear hd; go_simp; exact kE hK hs),
    (stp rfl fun a u hb hs hl hd K hK => by have s19 := gD hd 13; clear hd; go_simp; exact kE hK hs),
    (fun a u hb hs hl hd K hK => by have s1 := gL hl 2; have g20 := vD hd 14; clear hd; refine step_no rfl (j := 14) (d := 20) rfl rfl g20 (by decide) ?_; exact kE hK hs),
    (fun a u hb hs hl hd K hK => by have s21 := gD hd 15; have c0 := cell_up hb c0; have c2 := cell_up hb c2; have c3 := cell_up hb c3; have c6 := cell_up hb c6; have c8 := cell_up hb c8; have c17 := cell_up hb c17; have g20 := vD hd 14; clear hd; refine step_no rfl (j := 14) (d := 20) rfl rfl g20 (by decide) ?_; exact kE hK hs),
    (fun a u hb hs hl hd K hK => by have s22 := gD hd 16; have g20 := vD hd 14; clear hd; refine step_no rfl (j := 14) (d := 20) rfl rfl g20 (by decide) ?_; exact kE hK hs),
    (fun a u hb hs hl hd K hK => by have s23 := gD hd 17; have g20 := vD hd 14; clear hd; refine step_no rfl (j := 14) (d := 20) rfl rfl g20 (by decide) ?_; exact kE hK hs),
    (stp rfl fun a u hb hs hl hd K hK => by have s20 := gD hd 14; have s24 := gD hd 18; clear hd; go_simp; exact kE hK hs),
    (stp rfl fun a u hb hs hl hd K hK => by have s25 := gD hd 19; clear hd; go_simp; exact kE hK hs),
    (fun a u hb hs hl hd K hK => by have s1 := gL hl 2; have g26 := vD hd 20; clear hd; refine step_no rfl (j := 20) (d := 26) rfl rfl g26 (by decide) ?_; exact kE hK hs),
    (fun a u hb hs hl hd K hK => by have s27 := gD hd 21; have g26 := vD hd 20; clear hd; refine step_no rfl (j := 20) (d := 26) rfl rfl g26 (by decide) ?_; exact kE hK hs),
    (fun a u hb hs hl hd K hK => by have s28 := gD hd 22; have c0 := cell_up hb c0; have c2 := cell_up hb c2; have c3 := cell_up hb c3; have c6 := cell_up hb c6; have c8 := cell_up hb c8; have c17 := cell_up hb c17; have g26 := vD hd 20; clear hd; refine step_no rfl (j := 20) (d := 26) rfl rfl g26 (by decide) ?_; exact kE hK hs),
    (fun a u hb hs hl hd K hK => by have s29 := gD hd 23; have g26 := vD hd 20; clear hd; refine step_no rfl (j := 20) (d := 26) rfl rfl g26 (by decide) ?_; exact kE hK hs),
    (stp rfl fun a u hb hs hl hd K hK => by have s26 := gD hd 20; have s30 := gD hd 24; clear hd; go_simp; exact kE hK hs),
    (stp rfl fun a u hb hs hl hd K hK => by have s31 := gD hd 25; clear hd; go_simp; exact kE hK hs),
    (fun a u hb hs hl hd K hK => by have s1 := gL hl 2; have g32 := vD hd 26; clear hd; refine step_no rfl (j := 26) (d := 32) rfl rfl g32 (by decide) ?_; exact kE hK hs),
    (fun a u hb hs hl hd K hK => by have s33 := gD hd 27; have g32 := vD hd 26; clear hd; refine step_no rfl (j := 26) (d := 32) rfl rfl g32 (by decide) ?_; exact kE hK hs),
    (fun a u hb hs hl hd K hK => by have s34 := gD hd 28; have c0 := cell_up hb c0; have c2 := cell_up hb c2; have c3 := cell_up hb c3; have c6 := cell_up hb c6; have c8 := cell_up hb c8; have c17 := cell_up hb c17; have g32 := vD hd 26; clear hd; refine step_no rfl (j := 26) (d := 32) rfl rfl g32 (by decide) ?_; exact kE hK hs),
    (fun a u hb hs hl hd K hK => by have s35 := gD hd 29; have g32 := vD hd 26; clear hd; refine step_no rfl (j := 26) (d := 32) rfl rfl g32 (by decide) ?_; exact kE hK hs),
    (stp rfl fun a u hb hs hl hd K hK => by have s32 := gD hd 26; have s36 := gD hd 30; clear hd; go_simp; exact kE hK hs),
    trivial⟩ ?_
  clear hs hd zl
  intro a w hb hs hd zl hh
  replace zl := lH hh 31 zl
  clear hh
  replace hg := hg.after hb
  replace c0 := cell_up hb c0
  replace c2 := cell_up hb c2
  replace c3 := cell_up hb c3
  replace c6 := cell_up hb c6
  replace c8 := cell_up hb c8
  replace c17 := cell_up hb c17
  replace hB := bz_then hB hb
  clear hb
  show wpList _ _ _ [_] _ _
  refine tail_op rfl (fun K hK => ?_)
  have q37 := gL zl 0
  go_simp
  clear q37
  refine hK _ _ (tP hs hd zl ?_)
  clear hK K hs hd zl
  intro a hs hd zl
  have hbv : bb = false := by rw [← hbb.out]; simp [formedB, h1]
  clear c0 c2 c3 c6 c8 c17
  refine wp_seq ?_
  refine wp_seq ?_
  refine wp_region_list ?_
  show wpList _ _ _ [_, _, _] _ _
  refine tail_op rfl (fun K hK => ?_)
  have q1 := gL zl 4
  go_simp
  clear q1
  refine hK _ _ (tP hs hd zl ?_)
  clear hK K hs hd zl
  intro a hs hd zl
  refine tail_op rfl (fun K hK => ?_)
  have q38 := gL zl 0
  have s38 := vL zl 0
  refine op_load_part 31 (.tmp 38) rfl g 9 s38 _ _ #[(H.hh 0).v, (H.hh 1).v, (H.hh 2).v, (H.hh 3).v, (H.hh 4).v, (H.hh 5).v, (H.hh 6).v, (H.hh 7).v] _ hg (show (9 + 8 : Nat) ≤ 18 by decide) rfl rfl (by kernel_rfl) rfl ?_
  clear q38
  refine hK _ _ (tP hs hd zl ?_)
  clear hK K hs hd zl s38
  intro a hs hd zl
  refine tail_op rfl (fun K hK => ?_)
  go_simp
  refine hK _ _ (tP hs hd zl ?_)
  clear hK K hs hd zl
  intro a hs hd zl
  refine wp_block ?_
  have s3 := vL zl 3
  have s39 := vL zl 1
  have s40 := vL zl 0
  refine fm_loop (H := H) (w0 := w0) a _ hs hd hz s3 s39 s40 hB ?_
  clear hs hd s3 s39 s40 hB hg
  obtain ⟨-, -, -, -, -, -, -, -, -⟩ := zl
  rintro a w hs hd ⟨s3, -⟩ hB
  refine inBlock_exit ?_
  refine wp_seq ?_
  refine wp_region_list ?_
  show wpList _ _ _ [_, _] _ _
  refine tail_op rfl (fun K hK => ?_)
  have q3 := gd s3
  go_simp
  clear q3
  refine hK _ _ ?_
  clear hK K
  refine act_put (d := 54) _ hs hd (by decide) [(3, _)] ⟨s3, trivial⟩ rfl ?_
  clear hs hd s3
  intro a hs hd zl
  refine tail_op rfl (fun K hK => ?_)
  have q54 := gL zl 0
  go_simp
  clear q54
  refine hK _ _ (tP hs hd zl ?_)
  clear hK K hs hd zl
  intro a hs hd zl
  refine wp_ret ?_
  exact end_tmp rfl hd (vL zl 0) ⟨by rw [hbv], hB⟩
end Go.Proofs.YtcmllcmcbamlbaaDoor
namespace Go.Proofs.YtcmllcmcbamlbaaDoor
open Go.RowKit
theorem c_block (s r : HSl) (parts : Int) (w : World) (hp : 0 ≤ parts ∧ parts ≤ 4294967295) :
  Calls Tryd.prog 43 #[.agg #[s.v, .int .i64 parts, r.v]] w fun e w' => e = .returned (.agg #[s.v, .int .u32 parts, r.v]) ∧ Below w.heap.size w w' := by
 unfold HSl.v
 go_enter Tryd.func43, Tryd.ntmps43
 go_wp2
 exact bodyPost_ret (v := .agg #[.slice s.A s.l.length s.c, .int .u32 parts, .slice r.A r.l.length r.c]) (by simp [results, Tryd.results43, go_sem]) rfl (⟨rfl, by (repeat' (first | exact Below.refl _ _ | exact Nat.le_refl _ | (with_reducible assumption) | refine Below.setCell ?_ ?_ _ | refine Below.alloc ?_ ?_ _ | refine below_drewN ?_ _ | refine Below.drew ?_ | (simp; done) | omega | (simp; omega) | (simp at *; omega)))⟩)

theorem Hd.one (H : Hd) : ∀ v ∈ H.cells.toList, v.oneCell' = true := (by intro v hv; simp only [Hd.cells, HSl.v, List.mem_cons, List.not_mem_nil, or_false] at hv; rcases hv with rfl | rfl | rfl | rfl | rfl | rfl | rfl | rfl | rfl | rfl | rfl | rfl | rfl | rfl | rfl | rfl | rfl | rfl <;> rfl)
set_option maxHeartbeats 4000000 in
set_option maxRecDepth 100000 in
theorem c_lheader (H : Hd) (w : World) :
  Calls Tryd.prog 9 #[.agg H.cells] w fun e w' => e = .returned (.agg H.cells) ∧ Below w.heap.size w w' := by
 suffices h : ∀ w0, Below w0.heap.size w0 w → Calls Tryd.prog 9 #[.agg H.cells] w fun e w' => e = .returned (.agg H.cells) ∧ Below w0.heap.size w0 w' from h w (bz_refl w)
 intro w0 hB
 refine enter_abs Tryd.func9 rfl 20 rfl (by simp) ?_
 intro a hs hd hargs
 have s0 := hargs 0 _ rfl
 clear hargs
 refine wp_seq ?_
 refine wp_region_list ?_
 show wpList _ _ _ [_, _] _ _
 refine tail_op rfl (fun K hK => ?_)
 have q0 := gd s0
 go_simp
 clear q0
 refine hK _ _ ?_
 clear hK K
 refine act_put (d := 1) _ hs hd (by decide) [(0, _)] ⟨s0, trivial⟩ rfl ?_
 clear hs hd s0
 intro a hs hd zl
 obtain ⟨g, hE⟩ : ∃ B, Is w.heap.size B := is_self _
 generalize hw1 : World.alloc w _ = w1
 have hg : Blk w1 g 33 H.cells := by rw [← hw1, ← hE.out]; exact Blk.new w _ _
 have hB1 : Below w.heap.size w w1 := by rw [← hw1]; exact bz_alloc (bz_refl w) _
 replace hB := bz_then hB hB1
 obtain ⟨s1, s0, -⟩ := zl
 rw [hE.out] at s1
 clear hw1 hB1 hE
 refine tail_op rfl (fun K hK => ?_)
 go_simp
 refine hK _ _ ?_
 clear hK K
 refine act_put (d := 2) _ hs hd (by decide) [(0, _), (1, _)] ⟨s0, s1, trivial⟩ rfl ?_
 clear hs hd s0 s1
 intro a hs hd zl
 obtain ⟨z, hE⟩ : ∃ B, Is w1.heap.size B := is_self _
 generalize hw1 : World.alloc w1 _ = w2
 have hz : Blk w2 z 40 #[.int .i64 0, .int .i64 0, .string ⟨#[]⟩, .int .i64 0, .int .i64 0, .int .i64 0, .slice none 0 0, .int .i64 0, .slice none 0 0, .slice none 0 0, .slice none 0 0, .slice none 0 0, .slice none 0 0, .slice none 0 0, .slice none 0 0, .slice none 0 0, .slice none 0 0, .string ⟨#[]⟩] := by rw [← hw1, ← hE.out]; exact Blk.new w1 _ _
 have hB1 : Below w1.heap.size w1 w2 := by rw [← hw1]; exact bz_alloc (bz_refl w1) _
 have hgz : g ≠ z := by have := hg.lt; rw [← hE.out]; omega
 have hBz := Nat.le_trans hB.size (Nat.le_of_eq hE.out)
 replace hB := bz_then hB hB1
 replace hg := hg.after hB1
 obtain ⟨s2, s0, s1, -⟩ := zl
 rw [hE.out] at s2
 clear hw1 hB1 hE
 clear s0
 refine wp_seq ?_
 have c0 : w2.cell? ⟨g, 0, none⟩ = some (.int .i64 H.vb) := by rw [hg.cell]; rfl
 have c1 : w2.cell? ⟨g, 1, none⟩ = some (.int .i64 H.va) := by rw [hg.cell]; rfl
 have c2 : w2.cell? ⟨g, 2, none⟩ = some (.string H.ch) := by rw [hg.cell]; rfl
 have c3 : w2.cell? ⟨g, 3, none⟩ = some (.int .i64 H.ht) := by rw [hg.cell]; rfl
 have c17 : w2.cell? ⟨g, 17, none⟩ = some (.string H.pr) := by rw [hg.cell]; rfl
 refine wp_region_list ?_
 show wpList _ _ _ [_, _, _, _, _, _, _, _, _, _, _, _, _, _, _, _, _, _] _ _
 refine tail_op rfl (fun K hK => ?_)
 have q1 := gd s1
 go_simp
 clear q1
 refine hK _ _ ?_
 clear hK K
 refine act_put (d := 3) _ hs hd (by decide) [(1, _), (2, _)] ⟨s1, s2, trivial⟩ rfl ?_
 clear hs hd s1 s2
 intro a hs hd zl
 refine tail_op rfl (fun K hK => ?_)
 have q3 := gL zl 0
 go_simp
 clear q3
 refine hK _ _ (tP hs hd zl ?_)
 clear hK K hs hd zl
 intro a hs hd zl
 refine tail_op rfl (fun K hK => ?_)
 have q1 := gL zl 2
 go_simp
 clear q1
 refine hK _ _ (tP hs hd zl ?_)
 clear hK K hs hd zl
 intro a hs hd zl
 refine tail_op rfl (fun K hK => ?_)
 have q5 := gL zl 0
 go_simp
 clear q5
 refine hK _ _ (tP hs hd zl ?_)
 clear hK K hs hd zl
 intro a hs hd zl
 refine tail_op rfl (fun K hK => ?_)
 have q1 := gL zl 4
 go_simp
 clear q1
 refine hK _ _ (tP hs hd zl ?_)
 clear hK K hs hd zl
 intro a hs hd zl
 refine tail_op rfl (fun K hK => ?_)
 have q7 := gL zl 0
 go_simp
 clear q7
 refine hK _ _ (tP hs hd zl ?_)
 clear hK K hs hd zl
 intro a hs hd zl
 refine tail_op rfl (fun K hK => ?_)
 have q1 := gL zl 6
 go_simp
 clear q1
 refine hK _ _ (tP hs hd zl ?_)
 clear hK K hs hd zl
 intro a hs hd zl
 refine tail_op rfl (fun K hK => ?_)
 have q9 := gL zl 0
 go_simp
 clear q9
 refine hK _ _ (tP hs hd zl ?_)
 clear hK K hs hd zl
 intro a hs hd zl
 refine tail_op rfl (fun K hK => ?_)
 have q1 := gL zl 8
 go_simp
 clear q1
 refine hK _ _ (tP hs hd zl ?_)
 clear hK K hs hd zl
 intro a hs hd zl
 refine tail_op rfl (fun K hK => ?_)
 have q11 := gL zl 0
 have s11 := vL zl 0
 refine op_load_part 28 (.tmp 11) rfl g 4 s11 _ _ #[.int .i64 H.sec, .int .i64 H.ns] _ hg (show (4 + 2 : Nat) ≤ 18 by decide) rfl rfl (by kernel_rfl) rfl ?_
 clear q11
 refine hK _ _ (tP hs hd zl ?_)
 clear hK K hs hd zl s11
 intro a hs hd zl
 refine tail_op rfl (fun K hK => ?_)
 have q1 := gL zl 10
 go_simp
 clear q1
 refine hK _ _ (tP hs hd zl ?_)
 clear hK K hs hd zl
 intro a hs hd zl
 refine tail_op rfl (fun K hK => ?_)
 have q13 := gL zl 0
 have s13 := vL zl 0
 refine op_load_part 30 (.tmp 13) rfl g 6 s13 _ _ #[H.bh.v, .int .i64 H.bt, H.bp.v] _ hg (show (6 + 3 : Nat) ≤ 18 by decide) rfl rfl (by kernel_rfl) rfl ?_
 clear q13
 refine hK _ _ (tP hs hd zl ?_)
 clear hK K hs hd zl s13
 intro a hs hd zl
 refine tail_op rfl (fun K hK => ?_)
 have q1 := gL zl 12
 go_simp
 clear q1
 refine hK _ _ (tP hs hd zl ?_)
 clear hK K hs hd zl
 intro a hs hd zl
 refine tail_op rfl (fun K hK => ?_)
 have q15 := gL zl 0
 have s15 := vL zl 0
 refine op_load_part 31 (.tmp 15) rfl g 9 s15 _ _ #[(H.hh 0).v, (H.hh 1).v, (H.hh 2).v, (H.hh 3).v, (H.hh 4).v, (H.hh 5).v, (H.hh 6).v, (H.hh 7).v] _ hg (show (9 + 8 : Nat) ≤ 18 by decide) rfl rfl (by kernel_rfl) rfl ?_
 clear q15
 refine hK _ _ (tP hs hd zl ?_)
 clear hK K hs hd zl s15
 intro a hs hd zl
 refine tail_op rfl (fun K hK => ?_)
 have q1 := gL zl 14
 go_simp
 clear q1
 refine hK _ _ (tP hs hd zl ?_)
 clear hK K hs hd zl
 intro a hs hd zl
 refine tail_op rfl (fun K hK => ?_)
 have q17 := gL zl 0
 go_simp
 clear q17
 refine hK _ _ (tP hs hd zl ?_)
 clear hK K hs hd zl
 intro a hs hd zl
 refine tail_op rfl (fun K hK => ?_)
 have q4 := gL zl 14
 have q6 := gL zl 12
 have q8 := gL zl 10
 have q10 := gL zl 8
 have q12 := gL zl 6
 have q14 := gL zl 4
 have q16 := gL zl 2
 have q18 := gL zl 0
 unfold HSl.v at q14 q16
 go_simp
 clear q4 q6 q8 q10 q12 q14 q16 q18
 refine hK _ _ (tP hs hd zl ?_)
 clear hK K hs hd zl
 intro a hs hd zl
 refine tail_op rfl (fun K hK => ?_)
 have q2 := gL zl 18
 have q19 := gL zl 0
 have s2 := vL zl 18
 have s19 := vL zl 0
 refine op_store_row 40 (.tmp 2) (.tmp 19) rfl z s2 H.cells s19 40 _ hz rfl (by kernel_rfl) H.one ?_
 clear q2 q19
 refine hK _ _ ?_
 clear hK K
 change wpList _ _ _ _ a _
 have hz2 := hz.setRow H.cells
 replace hB := below_setRow hB hBz H.cells
 generalize World.setRow _ _ _ = w4 at hz2 hB ⊢
 clear s19
 refine wp_ret ?_
 exact end_row rfl z s2 hd.out 40 _ _ hz2 Tryd.underlying40 rfl (by kernel_rfl) ⟨rfl, hB⟩
set_option maxHeartbeats 4000000 in
set_option maxRecDepth 100000 in
theorem c_header (H : Hd) (w : World) (hn : H.num) :
  Calls Tryd.prog 28 #[.agg H.cells] w fun e w' => ∃ g ps, e = .returned (.pointer (some ⟨g, 0, none⟩)) ∧ Blk w' g 93 (H.pcells ps) ∧ ps.ok w' ∧ Is ps.l (bytesOf H.pr) ∧ w.heap.size ≤ g ∧ Below w.heap.size w w' := by
 suffices h : ∀ w0, Below w0.heap.size w0 w → Calls Tryd.prog 28 #[.agg H.cells] w fun e w' => ∃ g ps, e = .returned (.pointer (some ⟨g, 0, none⟩)) ∧ Blk w' g 93 (H.pcells ps) ∧ ps.ok w' ∧ Is ps.l (bytesOf H.pr) ∧ w0.heap.size ≤ g ∧ Below w0.heap.size w0 w' from h w (bz_refl w)
 intro w0 hB
 refine enter_abs Tryd.func28 rfl 49 rfl (by simp) ?_
 intro a hs hd hargs
 have s0 := hargs 0 _ rfl
 clear hargs
 refine wp_seq ?_
 refine wp_region_list ?_
 show wpList _ _ _ [_, _] _ _
 refine tail_op rfl (fun K hK => ?_)
 have q0 := gd s0
 go_simp
 clear q0
 refine hK _ _ ?_
 clear hK K
 refine act_put (d := 1) _ hs hd (by decide) [(0, _)] ⟨s0, trivial⟩ rfl ?_
 clear hs hd s0
 intro a hs hd zl
 obtain ⟨g, hE⟩ : ∃ B, Is w.heap.size B := is_self _
 generalize hw1 : World.alloc w _ = w1
 have hg : Blk w1 g 33 H.cells := by rw [← hw1, ← hE.out]; exact Blk.new w _ _
 have hB1 : Below w.heap.size w w1 := by rw [← hw1]; exact bz_alloc (bz_refl w) _
 replace hB := bz_then hB hB1
 obtain ⟨s1, s0, -⟩ := zl
 rw [hE.out] at s1
 clear hw1 hB1 hE
 refine tail_op rfl (fun K hK => ?_)
 go_simp
 refine hK _ _ ?_
 clear hK K
 refine act_put (d := 2) _ hs hd (by decide) [(0, _), (1, _)] ⟨s0, s1, trivial⟩ rfl ?_
 clear hs hd s0 s1
 intro a hs hd zl
 refine wp_seq ?_
 have c0 : w1.cell? ⟨g, 0, none⟩ = some (.int .i64 H.vb) := by rw [hg.cell]; rfl
 have c1 : w1.cell? ⟨g, 1, none⟩ = some (.int .i64 H.va) := by rw [hg.cell]; rfl
 have c2 : w1.cell? ⟨g, 2, none⟩ = some (.string H.ch) := by rw [hg.cell]; rfl
 have c3 : w1.cell? ⟨g, 3, none⟩ = some (.int .i64 H.ht) := by rw [hg.cell]; rfl
 have c9 : w1.cell? ⟨g, 9, none⟩ = some (.slice (H.hh 0).A (H.hh 0).l.length (H.hh 0).c) := by rw [hg.cell]; rfl
 have c10 : w1.cell? ⟨g, 10, none⟩ = some (.slice (H.hh 1).A (H.hh 1).l.length (H.hh 1).c) := by rw [hg.cell]; rfl
 have c11 : w1.cell? ⟨g, 11, none⟩ = some (.slice (H.hh 2).A (H.hh 2).l.length (H.hh 2).c) := by rw [hg.cell]; rfl
 have c12 : w1.cell? ⟨g, 12, none⟩ = some (.slice (H.hh 3).A (H.hh 3).l.length (H.hh 3).c) := by rw [hg.cell]; rfl
 have c13 : w1.cell? ⟨g, 13, none⟩ = some (.slice (H.hh 4).A (H.hh 4).l.length (H.hh 4).c) := by rw [hg.cell]; rfl
 have c14 : w1.cell? ⟨g, 14, none⟩ = some (.slice (H.hh 5).A (H.hh 5).l.length (H.hh 5).c) := by rw [hg.cell]; rfl
 have c15 : w1.cell? ⟨g, 15, none⟩ = some (.slice (H.hh 6).A (H.hh 6).l.length (H.hh 6).c) := by rw [hg.cell]; rfl
 have c16 : w1.cell? ⟨g, 16, none⟩ = some (.slice (H.hh 7).A (H.hh 7).l.length (H.hh 7).c) := by rw [hg.cell]; rfl
 have c17 : w1.cell? ⟨g, 17, none⟩ = some (.string H.pr) := by rw [hg.cell]; rfl
 have n1 := hn.vb
 have n2 := hn.va
 have n4 := hn.sec
 have n5 := hn.ns
 have n6 := hn.bt
 have np := hn.pr
 have e1 : IntKind.u64.wrap H.vb = H.vb := IntWalk.u64_in _ (by omega)
 have e2 : IntKind.u64.wrap H.va = H.va := IntWalk.u64_in _ (by omega)
 have kc := fun (w : World) => Lib.run_convert_string_bytes (P := Tryd.prog) w 9 23 5 (H.pr) Tryd.underlying9 Tryd.underlying23 Tryd.underlying5
 obtain ⟨s2, -, s1, -⟩ := zl
 refine fl2 (F := [(1, _), (2, _)]) [FItem.eq 3 _, FItem.eq 4 _, FItem.eq 5 _, FItem.eq 6 _, FItem.eq 7 _, FItem.eq 8 _, FItem.eq 9 _, FItem.eq 10 _, FItem.eq 11 _, FItem.eq 12 _, FItem.eq 13 _, FItem.eq 14 _, FItem.eq 15 (.agg #[.int .i64 H.sec, .int .i64 H.ns]), FItem.eq 16 (.agg #[.int .i64 (H.sec + 62135596800), .int .i32 H.ns]), FItem.eq 17 _, FItem.eq 18 (.agg #[H.bh.v, .int .i64 H.bt, H.bp.v]), FItem.eq 19 (.agg #[H.bh.v, .int .u32 H.bt, H.bp.v]), FItem.eq 20 _, FItem.eq 21 _, FItem.eq 22 _, FItem.eq 23 _, FItem.eq 24 _, FItem.eq 25 _, FItem.eq 26 _, FItem.eq 27 _, FItem.eq 28 _, FItem.eq 29 _, FItem.eq 30 _, FItem.eq 31 _, FItem.eq 32 _, FItem.eq 33 _, FItem.eq 34 _, FItem.eq 35 _, FItem.eq 36 _, FItem.eq 37 _, FItem.eq 38 _, FItem.eq 39 _, FItem.eq 40 _, FItem.eq 41 _, FItem.eq 42 _, FItem.eq 43 _, FItem.eq 44 _, FItem.eq 45 _, FItem.bs 46 0 (bytesOf H.pr)] 44 hs hd ⟨s1, s2, trivial⟩
  ⟨(stp rfl fun a u hb hs hl hd K hK => by have s1 := gL hl 0; clear hd; go_simp; exact kE hK hs),
   (stp rfl fun a u hb hs hl hd K hK => by have s3 := gD hd 0; have c0 := cell_up hb c0; have c1 := cell_up hb c1; have c2 := cell_up hb c2; have c3 := cell_up hb c3; have c9 := cell_up hb c9; have c10 := cell_up hb c10; have c11 := cell_up hb c11; have c12 := cell_up hb c12; have c13 := cell_up hb c13; have c14 := cell_up hb c14; have c15 := cell_up hb c15; have c16 := cell_up hb c16; have c17 := cell_up hb c17; clear hd; go_simp; exact kE hK hs),
   (stp rfl fun a u hb hs hl hd K hK => by have s4 := gD hd 1; clear hd; go_simp; exact kE hK hs),
   (stp rfl fun a u hb hs hl hd K hK => by have s1 := gL hl 0; clear hd; go_simp; exact kE hK hs),
   (stp rfl fun a u hb hs hl hd K hK => by have s6 := gD hd 3; have c0 := cell_up hb c0; have c1 := cell_up hb c1; have c2 := cell_up hb c2; have c3 := cell_up hb c3; have c9 := cell_up hb c9; have c10 := cell_up hb c10; have c11 := cell_up hb c11; have c12 := cell_up hb c12; have c13 := cell_up hb c13; have c14 := cell_up hb c14; have c15 := cell_up hb c15; have c16 := cell_up hb c16; have c17 := cell_up hb c17; clear hd; go_simp; exact kE hK hs),
   (stp rfl fun a u hb hs hl hd K hK => by have s7 := gD hd 4; clear hd; go_simp; exact kE hK hs),
   (stp rfl fun a u hb hs hl hd K hK => by have s5 := gD hd 2; have s8 := gD hd 5; clear hd; go_simp; exact kE hK hs),
   (stp rfl fun a u hb hs hl hd K hK => by have s1 := gL hl 0; clear hd; go_simp; exact kE hK hs),
   (stp rfl fun a u hb hs hl hd K hK => by have s10 := gD hd 7; have c0 := cell_up hb c0; have c1 := cell_up hb c1; have c2 := cell_up hb c2; have c3 := cell_up hb c3; have c9 := cell_up hb c9; have c10 := cell_up hb c10; have c11 := cell_up hb c11; have c12 := cell_up hb c12; have c13 := cell_up hb c13; have c14 := cell_up hb c14; have c15 := cell_up hb c15; have c16 := cell_up hb c16; have c17 := cell_up hb c17; clear hd; go_simp; exact kE hK hs),
   (stp rfl fun a u hb hs hl hd K hK => by have s1 := gL hl 0; clear hd; go_simp; exact kE hK hs),
   (stp rfl fun a u hb hs hl hd K hK => by have s12 := gD hd 9; have c0 := cell_up hb c0; have c1 := cell_up hb c1; have c2 := cell_up hb c2; have c3 := cell_up hb c3; have c9 := cell_up hb c9; have c10 := cell_up hb c10; have c11 := cell_up hb c11; have c12 := cell_up hb c12; have c13 := cell_up hb c13; have c14 := cell_up hb c14; have c15 := cell_up hb c15; have c16 := cell_up hb c16; have c17 := cell_up hb c17; clear hd; go_simp; exact kE hK hs),
   (stp rfl fun a u hb hs hl hd K hK => by have s1 := gL hl 0; clear hd; go_simp; exact kE hK hs),
   (stp rfl fun a u hb hs hl hd K hK => by
    have s14 := gD hd 11
    have c0 := cell_up hb c0
    have c1 := cell_up hb c1
    have c2 := cell_up hb c2
    have c3 := cell_up hb c3
    have c9 := cell_up hb c9
    have c10 := cell_up hb c10
    have c11 := cell_up hb c11
    have c12 := cell_up hb c12
    have c13 := cell_up hb c13
    have c14 := cell_up hb c14
    have c15 := cell_up hb c15
    have c16 := cell_up hb c16
    have c17 := cell_up hb c17
    clear hd
    refine op_load_part 28 (.tmp 14) rfl g 4 (gu s14) _ _ #[.int .i64 H.sec, .int .i64 H.ns] _ (hg.after hb) (show (4 + 2 : Nat) ≤ 18 by decide) rfl rfl (by kernel_rfl) rfl ?_
    exact kE hK hs),
   (stp rfl fun a u hb hs hl hd K hK => by
    have s15 := gD hd 12
    have c0 := cell_up hb c0
    have c1 := cell_up hb c1
    have c2 := cell_up hb c2
    have c3 := cell_up hb c3
    have c9 := cell_up hb c9
    have c10 := cell_up hb c10
    have c11 := cell_up hb c11
    have c12 := cell_up hb c12
    have c13 := cell_up hb c13
    have c14 := cell_up hb c14
    have c15 := cell_up hb c15
    have c16 := cell_up hb c16
    have c17 := cell_up hb c17
    clear hd
    go_simp
    refine (c_moment H.sec H.ns _ (by omega) (by omega)).mono ?_
    rintro e w3 ⟨rfl, hb2⟩
    exact hK _ _ hb2 (eq_put hs (by decide))),
   (stp rfl fun a u hb hs hl hd K hK => by have s1 := gL hl 0; clear hd; go_simp; exact kE hK hs),
   (stp rfl fun a u hb hs hl hd K hK => by
    have s17 := gD hd 14
    have c0 := cell_up hb c0
    have c1 := cell_up hb c1
    have c2 := cell_up hb c2
    have c3 := cell_up hb c3
    have c9 := cell_up hb c9
    have c10 := cell_up hb c10
    have c11 := cell_up hb c11
    have c12 := cell_up hb c12
    have c13 := cell_up hb c13
    have c14 := cell_up hb c14
    have c15 := cell_up hb c15
    have c16 := cell_up hb c16
    have c17 := cell_up hb c17
    clear hd
    refine op_load_part 30 (.tmp 17) rfl g 6 (gu s17) _ _ #[H.bh.v, .int .i64 H.bt, H.bp.v] _ (hg.after hb) (show (6 + 3 : Nat) ≤ 18 by decide) rfl rfl (by kernel_rfl) rfl ?_
    exact kE hK hs),
   (stp rfl fun a u hb hs hl hd K hK => by
    have s18 := gD hd 15
    have c0 := cell_up hb c0
    have c1 := cell_up hb c1
    have c2 := cell_up hb c2
    have c3 := cell_up hb c3
    have c9 := cell_up hb c9
    have c10 := cell_up hb c10
    have c11 := cell_up hb c11
    have c12 := cell_up hb c12
    have c13 := cell_up hb c13
    have c14 := cell_up hb c14
    have c15 := cell_up hb c15
    have c16 := cell_up hb c16
    have c17 := cell_up hb c17
    clear hd
    go_simp
    refine (c_block H.bh H.bp H.bt _ (by omega)).mono ?_
    rintro e w3 ⟨rfl, hb2⟩
    exact hK _ _ hb2 (eq_put hs (by decide))),
   (stp rfl fun a u hb hs hl hd K hK => by have s1 := gL hl 0; clear hd; go_simp; exact kE hK hs),
   (stp rfl fun a u hb hs hl hd K hK => by have s20 := gD hd 17; clear hd; go_simp; exact kE hK hs),
   (stp rfl fun a u hb hs hl hd K hK => by have s21 := gD hd 18; have c0 := cell_up hb c0; have c1 := cell_up hb c1; have c2 := cell_up hb c2; have c3 := cell_up hb c3; have c9 := cell_up hb c9; have c10 := cell_up hb c10; have c11 := cell_up hb c11; have c12 := cell_up hb c12; have c13 := cell_up hb c13; have c14 := cell_up hb c14; have c15 := cell_up hb c15; have c16 := cell_up hb c16; have c17 := cell_up hb c17; clear hd; go_simp; exact kE hK hs),
   (stp rfl fun a u hb hs hl hd K hK => by have s1 := gL hl 0; clear hd; go_simp; exact kE hK hs),
   (stp rfl fun a u hb hs hl hd K hK => by have s23 := gD hd 20; clear hd; go_simp; exact kE hK hs),
   (stp rfl fun a u hb hs hl hd K hK => by have s24 := gD hd 21; have c0 := cell_up hb c0; have c1 := cell_up hb c1; have c2 := cell_up hb c2; have c3 := cell_up hb c3; have c9 := cell_up hb c9; have c10 := cell_up hb c10; have c11 := cell_up hb c11; have c12 := cell_up hb c12; have c13 := cell_up hb c13; have c14 := cell_up hb c14; have c15 := cell_up hb c15; have c16 := cell_up hb c16; have c17 := cell_up hb c17; clear hd; go_simp; exact kE hK hs),
   (stp rfl fun a u hb hs hl hd K hK => by have s1 := gL hl 0; clear hd; go_simp; exact kE hK hs),
   (stp rfl fun a u hb hs hl hd K hK => by have s26 := gD hd 23; clear hd; go_simp; exact kE hK hs),
   (stp rfl fun a u hb hs hl hd K hK => by have s27 := gD hd 24; have c0 := cell_up hb c0; have c1 := cell_up hb c1; have c2 := cell_up hb c2; have c3 := cell_up hb c3; have c9 := cell_up hb c9; have c10 := cell_up hb c10; have c11 := cell_up hb c11; have c12 := cell_up hb c12; have c13 := cell_up hb c13; have c14 := cell_up hb c14; have c15 := cell_up hb c15; have c16 := cell_up hb c16; have c17 := cell_up hb c17; clear hd; go_simp; exact kE hK hs),
   (stp rfl fun a u hb hs hl hd K hK => by have s1 := gL hl 0; clear hd; go_simp; exact kE hK hs),
   (stp rfl fun a u hb hs hl hd K hK => by have s29 := gD hd 26; clear hd; go_simp; exact kE hK hs),
   (stp rfl fun a u hb hs hl hd K hK => by have s30 := gD hd 27; have c0 := cell_up hb c0; have c1 := cell_up hb c1; have c2 := cell_up hb c2; have c3 := cell_up hb c3; have c9 := cell_up hb c9; have c10 := cell_up hb c10; have c11 := cell_up hb c11; have c12 := cell_up hb c12; have c13 := cell_up hb c13; have c14 := cell_up hb c14; have c15 := cell_up hb c15; have c16 := cell_up hb c16; have c17 := cell_up hb c17; clear hd; go_simp; exact kE hK hs),
   (stp rfl fun a u hb hs hl hd K hK => by have s1 := gL hl 0; clear hd; go_simp; exact kE hK hs),
   (stp rfl fun a u hb hs hl hd K hK => by have s32 := gD hd 29; clear hd; go_simp; exact kE hK hs),
   (stp rfl fun a u hb hs hl hd K hK => by have s33 := gD hd 30; have c0 := cell_up hb c0; have c1 := cell_up hb c1; have c2 := cell_up hb c2; have c3 := cell_up hb c3; have c9 := cell_up hb c9; have c10 := cell_up hb c10; have c11 := cell_up hb c11; have c12 := cell_up hb c12; have c13 := cell_up hb c13; have c14 := cell_up hb c14; have c15 := cell_up hb c15; have c16 := cell_up hb c16; have c17 := cell_up hb c17; clear hd; go_simp; exact kE hK hs),
   (stp rfl fun a u hb hs hl hd K hK => by have s1 := gL hl 0; clear hd; go_simp; exact kE hK hs),
   (stp rfl fun a u hb hs hl hd K hK => by have s35 := gD hd 32; clear hd; go_simp; exact kE hK hs),
   (stp rfl fun a u hb hs hl hd K hK => by have s36 := gD hd 33; have c0 := cell_up hb c0; have c1 := cell_up hb c1; have c2 := cell_up hb c2; have c3 := cell_up hb c3; have c9 := cell_up hb c9; have c10 := cell_up hb c10; have c11 := cell_up hb c11; have c12 := cell_up hb c12; have c13 := cell_up hb c13; have c14 := cell_up hb c14; have c15 := cell_up hb c15; have c16 := cell_up hb c16; have c17 := cell_up hb c17; clear hd; go_simp; exact kE hK hs),
   (stp rfl fun a u hb hs hl hd K hK => by have s1 := gL hl 0; clear hd; go_simp; exact kE hK hs),
   (stp rfl fun a u hb hs hl hd K hK => by have s38 := gD hd 35; clear hd; go_simp; exact kE hK hs),
   (stp rfl fun a u hb hs hl hd K hK => by have s39 := gD hd 36; have c0 := cell_up hb c0; have c1 := cell_up hb c1; have c2 := cell_up hb c2; have c3 := cell_up hb c3; have c9 := cell_up hb c9; have c10 := cell_up hb c10; have c11 := cell_up hb c11; have c12 := cell_up hb c12; have c13 := cell_up hb c13; have c14 := cell_up hb c14; have c15 := cell_up hb c15; have c16 := cell_up hb c16; have c17 := cell_up hb c17; clear hd; go_simp; exact kE hK hs),
   (stp rfl fun a u hb hs hl hd K hK => by have s1 := gL hl 0; clear hd; go_simp; exact kE hK hs),
   (stp rfl fun a u hb hs hl hd K hK => by have s41 := gD hd 38; clear hd; go_simp; exact kE hK hs),
   (stp rfl fun a u hb hs hl hd K hK => by have s42 := gD hd 39; have c0 := cell_up hb c0; have c1 := cell_up hb c1; have c2 := cell_up hb c2; have c3 := cell_up hb c3; have c9 := cell_up hb c9; have c10 := cell_up hb c10; have c11 := cell_up hb c11; have c12 := cell_up hb c12; have c13 := cell_up hb c13; have c14 := cell_up hb c14; have c15 := cell_up hb c15; have c16 := cell_up hb c16; have c17 := cell_up hb c17; clear hd; go_simp; exact kE hK hs),
   (stp rfl fun a u hb hs hl hd K hK => by have s1 := gL hl 0; clear hd; go_simp; exact kE hK hs),
   (stp rfl fun a u hb hs hl hd K hK => by have s44 := gD hd 41; have c0 := cell_up hb c0; have c1 := cell_up hb c1; have c2 := cell_up hb c2; have c3 := cell_up hb c3; have c9 := cell_up hb c9; have c10 := cell_up hb c10; have c11 := cell_up hb c11; have c12 := cell_up hb c12; have c13 := cell_up hb c13; have c14 := cell_up hb c14; have c15 := cell_up hb c15; have c16 := cell_up hb c16; have c17 := cell_up hb c17; clear hd; go_simp; exact kE hK hs),
   (stp rfl fun a u hb hs hl hd K hK => by
    have s45 := gD hd 42
    have c0 := cell_up hb c0
    have c1 := cell_up hb c1
    have c2 := cell_up hb c2
    have c3 := cell_up hb c3
    have c9 := cell_up hb c9
    have c10 := cell_up hb c10
    have c11 := cell_up hb c11
    have c12 := cell_up hb c12
    have c13 := cell_up hb c13
    have c14 := cell_up hb c14
    have c15 := cell_up hb c15
    have c16 := cell_up hb c16
    have c17 := cell_up hb c17
    clear hd
    go_simp
    exact hK _ _ (bz_bytes (bz_refl _) _ _) (bs_put hs (by decide) (conv_at _ _ _))),
   trivial⟩ ?_
 clear hs hd s1 s2
 intro a w hb hs hd zl hh
 replace zl := lH hh 6 zl
 replace zl := lH hh 8 zl
 replace zl := lH hh 10 zl
 replace zl := lH hh 13 zl
 replace zl := lH hh 16 zl
 replace zl := lH hh 19 zl
 replace zl := lH hh 22 zl
 replace zl := lH hh 25 zl
 replace zl := lH hh 28 zl
 replace zl := lH hh 31 zl
 replace zl := lH hh 34 zl
 replace zl := lH hh 37 zl
 replace zl := lH hh 40 zl
 have i46 := FItem.bs_holds.1 (hold_get hh 43)
 obtain ⟨v46, s46⟩ : ∃ v, a.tmps.getD 46 undef = v := ⟨_, rfl⟩
 rw [s46] at i46
 clear hh
 replace hg := hg.after hb
 replace c0 := cell_up hb c0
 replace c1 := cell_up hb c1
 replace c2 := cell_up hb c2
 replace c3 := cell_up hb c3
 replace c9 := cell_up hb c9
 replace c10 := cell_up hb c10
 replace c11 := cell_up hb c11
 replace c12 := cell_up hb c12
 replace c13 := cell_up hb c13
 replace c14 := cell_up hb c14
 replace c15 := cell_up hb c15
 replace c16 := cell_up hb c16
 replace c17 := cell_up hb c17
 replace hB := bz_then hB hb
 clear hb
 show wpList _ _ _ [_, _, _] _ _
 refine tail_op rfl (fun K hK => ?_)
 have q9 := gL zl 12
 have q11 := gL zl 11
 have q13 := gL zl 10
 have q16 := gL zl 9
 have q19 := gL zl 8
 have q22 := gL zl 7
 have q25 := gL zl 6
 have q28 := gL zl 5
 have q31 := gL zl 4
 have q34 := gL zl 3
 have q37 := gL zl 2
 have q40 := gL zl 1
 have q43 := gL zl 0
 have q46 := gd s46
 obtain ⟨ps, hv46, hps, hpl⟩ := i46.sl (bytesOf_bytes _) (by rw [bytesOf_length]; omega)
 subst hv46
 unfold HSl.v at q19 q46
 go_simp
 clear q9 q11 q13 q16 q19 q22 q25 q28 q31 q34 q37 q40 q43 q46
 refine hK _ _ ?_
 clear hK K
 obtain ⟨s43, s40, s37, s34, s31, s28, s25, s22, s19, s16, s13, s11, s9, -, s2, -⟩ := zl
 refine act_put (d := 47) _ hs hd (by decide) [(2, _), (9, _), (11, _), (13, _), (16, _), (19, _), (22, _), (25, _), (28, _), (31, _), (34, _), (37, _), (40, _), (43, _), (46, _)] ⟨s2, s9, s11, s13, s16, s19, s22, s25, s28, s31, s34, s37, s40, s43, s46, trivial⟩ rfl ?_
 clear hs hd s2 s9 s11 s13 s16 s19 s22 s25 s28 s31 s34 s37 s40 s43 s46
 intro a hs hd zl
 refine tail_op rfl (fun K hK => ?_)
 have q47 := gL zl 0
 go_simp
 clear q47
 refine hK _ _ (tP hs hd zl ?_)
 clear hK K hs hd zl
 intro a hs hd zl
 obtain ⟨g2, hE⟩ : ∃ B, Is w.heap.size B := is_self _
 generalize hw1 : World.alloc w _ = w1
 have hg2 : Blk w1 g2 93 (H.pcells ps) := by rw [← hw1, ← hE.out]; exact Blk.new w _ _
 have hB1 : Below w.heap.size w w1 := by rw [← hw1]; exact bz_alloc (bz_refl w) _
 have hge := Nat.le_trans hB.size (Nat.le_of_eq hE.out)
 replace hB := bz_then hB hB1
 replace hg := hg.after hB1
 replace hps := hps.after hB1
 obtain ⟨s48, s47, s2, s9, s11, s13, s16, s19, s22, s25, s28, s31, s34, s37, s40, s43, s46, -⟩ := zl
 rw [hE.out] at s48
 clear hw1 hB1 hE
 refine tail_op rfl (fun K hK => ?_)
 have q48 := gd s48
 go_simp
 clear q48
 refine hK _ _ ?_
 clear hK K
 refine act_put (d := 2) _ hs hd (by decide) [(9, _), (11, _), (13, _), (16, _), (19, _), (22, _), (25, _), (28, _), (31, _), (34, _), (37, _), (40, _), (43, _), (46, _), (47, _), (48, _)] ⟨s9, s11, s13, s16, s19, s22, s25, s28, s31, s34, s37, s40, s43, s46, s47, s48, trivial⟩ rfl ?_
 clear hs hd s2 s9 s11 s13 s16 s19 s22 s25 s28 s31 s34 s37 s40 s43 s46 s47 s48
 intro a hs hd zl
 refine wp_ret ?_
 exact end_tmp rfl hd (vL zl 0) ⟨_, ps, rfl, hg2, hps, hpl, hge, hB⟩
end Go.Proofs.YtcmllcmcbamlbaaDoor
