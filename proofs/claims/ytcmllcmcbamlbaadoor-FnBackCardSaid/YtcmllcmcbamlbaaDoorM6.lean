/- checkSum. (Printed by gen_sum.py.) Operations whole, for walks with the frame as a letter: aggregates loaded and stored, bytes put behind. And what a function hands back that made bytes (weaker than OutB: of any block). The sum of bytes: New, Sum, the package's own. (Printed by gen_sumb.py.) The tree's hashes: a leaf, an inner node, over a digest behind an interface. (Printed by gen_merk.py.) Where a tree's list is cut. (Printed by gen_split.py.) -/
import Derived.Test.YtcmllcmcbamlbaaDoorM5
import Derived.Handy
set_option linter.unusedVariables false
set_option linter.unusedSimpArgs false
namespace Go.Proofs.YtcmllcmcbamlbaaDoor
open Go.RowKit

/-- The 32 bytes of a sum as a value. -/
def arr32 (l : List Int) : Value := .agg (l.map (Value.int .u8)).toArray
theorem putX_ext (l : List Int) (h : l.length = 32) : (putX (zs 32) 0 l).extract 0 (0 + 32) = (l.map (Value.int .u8)).toArray := by
 apply Array.ext'
 unfold putX zs
 simp [h]
 rw [List.take_of_length_le (by simp [h])]
theorem one_u8 (l : List Int) : ∀ v ∈ ((l.map (Value.int .u8)).toArray).toList, v.oneCell' = true := by
 intro v hv
 obtain ⟨a, -, rfl⟩ := List.mem_map.1 (by simpa using hv)
 rfl
theorem gb_setRow (w : World) (g : Nat) (cs : Array Value) : GB w (w.setRow g cs) g := ⟨rfl, rfl, rfl, by simp, fun k hk hn => setRow_other _ _ _ _ (fun e => hn (by rw [e]))⟩

noncomputable def csRest : Code := partAt [true, true, true, true, true, true] (Tryd.f80.body.getD .skip)
def St32 (s : ShaSt) : Prop := U32 s.a ∧ U32 s.b ∧ U32 s.c ∧ U32 s.d ∧ U32 s.e ∧ U32 s.f ∧ U32 s.g ∧ U32 s.h
theorem addSt_U32 (s t : ShaSt) : St32 (addSt s t) := ⟨add32_U32 _ _, add32_U32 _ _, add32_U32 _ _, add32_U32 _ _, add32_U32 _ _, add32_U32 _ _, add32_U32 _ _, add32_U32 _ _⟩
theorem shaBlk_U32 (b : List Int) (p : Nat) (s : ShaSt) : St32 (shaBlk b p s) := by unfold shaBlk; generalize shaRds b p s 64 = t; exact addSt_U32 s t
theorem shaBlks_U32 (b : List Int) (n : Nat) : ∀ (p : Nat) (s : ShaSt), St32 s → St32 (shaBlks b p n s) := by
 induction n with
 | zero => exact fun p s h => h
 | succ n ih => exact fun p s h => by rw [shaBlks]; exact ih _ _ (shaBlk_U32 b p s)
theorem sha0_U32 : St32 sha0 := by unfold St32 U32 sha0; decide

set_option maxHeartbeats 4000000 in
set_option maxRecDepth 100000 in
theorem cs_rest {R : Ending → World → Prop} {g R0 T t : Nat} {m : List Int} {w0 : World} (a : Act) (w : World) (hs : SzIs a 104) (hd : DfNil a)
  (s0 : a.tmps.getD 0 undef = .pointer (some ⟨g, 0, none⟩)) (s2 : a.tmps.getD 2 undef = .pointer (some ⟨R0, 0, none⟩)) (s3 : a.tmps.getD 3 undef = .int .u64 ((m.length : Nat) : Int)) (s4 : a.tmps.getD 4 undef = .pointer (some ⟨T, 0, none⟩)) (s5 : a.tmps.getD 5 undef = .int .u64 (t : Int))
  (h1 : 1 ≤ t) (h2 : t ≤ 64) (ht : shaZeros m.length = t - 1) (hm8 : Bytes m) (hlen : m.length ≤ 900000000000) (hG : GB w0 w g) (hD : Dst w g m) (hT : Blk w T 132 ((zs 72).setIfInBounds 0 (.int .u8 128))) (hR : Blk w R0 126 (zs 32)) (hKt : KTab w 0) (hg0 : g ≠ 0) (hT0 : w0.heap.size ≤ T) (hR0 : w0.heap.size ≤ R0) (hgw : g < w0.heap.size) (hKw : 0 < w0.heap.size) (hRT : R0 ≠ T)
  (hQ : ∀ w', GB w0 w' g → w'.cell? ⟨g, 74, none⟩ = some (.bool false) → R (.returned (arr32 (sha m))) w') : csRest.wp Tryd.prog (bodyPost Tryd.prog Tryd.f80 R) a w := by
 conv => arg 2; whnf
 obtain ⟨L8, hL8⟩ : ∃ L8, Is (8 * m.length) L8 := is_self _
 have hw3 : IntKind.u64.wrap (((m.length : Nat) : Int) * 8) = (L8 : Int) := by rw [IntKind.wrap_u64, ← hL8.out]; omega
 have hL8' : L8 < 18446744073709551616 := by rw [← hL8.out]; omega
 have hw5 : IntKind.u64.wrap ((t : Int) + 8) = ((t + 8 : Nat) : Int) := by rw [IntKind.wrap_u64]; omega
 have hw0 : IntKind.u64.wrap (t : Int) = (t : Int) := by rw [IntKind.wrap_u64]; omega
 have hTg : T ≠ g := by omega
 have hRg : R0 ≠ g := by omega
 refine wp_seq ?_
 refine fl2 (F := [(0, _), (2, _), (3, _), (4, _), (5, _)]) [.eq 22 _, .eq 23 _] 2 hs hd ⟨s0, s2, s3, s4, s5, trivial⟩
  ⟨(stp rfl fun a u hb hs hl hd K hK => by have s3 := gL hl 2; clear hd; go_simp; exact kE hK hs),
   (stp rfl fun a u hb hs hl hd K hK => by have s22 := gD hd 0; clear hd; go_simp; exact kE hK hs),
   trivial⟩ ?_
 clear hs hd s0 s2 s3 s4 s5
 intro a w hb hs hd zl hh
 replace zl := lH hh 1 zl
 clear hh
 replace hG := hG.after hb
 replace hD := hD.after hb
 replace hT := hT.after hb
 replace hR := hR.after hb
 replace hKt := hKt.after hb
 clear hb
 show wpList _ _ _ [_] _ _
 refine tail_op rfl (fun K hK => ?_)
 have q23 := gL zl 0
 go_simp
 clear q23
 refine hK _ _ ?_
 clear hK K
 obtain ⟨s23, s0, s2, s3, s4, s5, -⟩ := zl
 refine act_put (d := 3) _ hs hd (by decide) [(0, _), (2, _), (4, _), (5, _), (23, _)] ⟨s0, s2, s4, s5, s23, trivial⟩ rfl ?_
 clear hs hd s0 s2 s3 s4 s5 s23
 intro a hs hd zl
 refine wp_seq ?_
 have q0 : (0 : Int) ≤ (t : Int) + 8 := by omega
 have q1 : (t : Int) + 8 ≤ 72 := by omega
 have q2 : Int.toNat ((t : Int) + 8) = t + 8 := by omega
 refine fl2 [.eq 24 _, .eq 25 _, .eq 26 _] 3 hs hd zl
  ⟨(stp rfl fun a u hb hs hl hd K hK => by have s5 := gL hl 4; clear hd; go_simp; exact kE hK hs),
   (stp rfl fun a u hb hs hl hd K hK => by have s24 := gD hd 0; clear hd; go_simp; exact kE hK hs),
   (stp rfl fun a u hb hs hl hd K hK => by have s4 := gL hl 3; have s25 := gD hd 1; clear hd; go_simp; exact kE hK hs),
   trivial⟩ ?_
 clear hs hd zl
 intro a w hb hs hd zl hh
 replace zl := lH hh 2 zl
 clear hh
 replace hG := hG.after hb
 replace hD := hD.after hb
 replace hT := hT.after hb
 replace hR := hR.after hb
 replace hKt := hKt.after hb
 clear hb
 show wpList _ _ _ [_] _ _
 refine tail_op rfl (fun K hK => ?_)
 have q26 := gL zl 0
 go_simp
 clear q26
 refine hK _ _ (tP hs hd zl ?_)
 clear hK K hs hd zl
 intro a hs hd zl
 clear q0 q1
 refine wp_seq ?_
 have q3 : (t : Int) ≤ (t : Int) + 8 := by omega
 have q4 : ¬ (72 = t) := by omega
 have q5 : t + 8 - t = 8 := by omega
 refine fl2 [.eq 27 _, .eq 28 _, .eq 29 _, .eq 30 _, .eq 31 _] 5 hs hd zl
  ⟨(stp rfl fun a u hb hs hl hd K hK => by have s6 := gL hl 0; clear hd; go_simp; exact kE hK hs),
   (stp rfl fun a u hb hs hl hd K hK => by have s5 := gL hl 6; clear hd; go_simp; exact kE hK hs),
   (stp rfl fun a u hb hs hl hd K hK => by have s28 := gD hd 1; clear hd; go_simp; exact kE hK hs),
   (stp rfl fun a u hb hs hl hd K hK => by have s27 := gD hd 0; have s29 := gD hd 2; clear hd; go_simp; exact kE hK hs),
   (stp rfl fun a u hb hs hl hd K hK => by have s3 := gL hl 2; clear hd; go_simp; exact kE hK hs),
   trivial⟩ ?_
 clear hs hd zl
 intro a w hb hs hd zl hh
 replace zl := lH hh 3 zl
 replace zl := lH hh 4 zl
 clear hh
 replace hG := hG.after hb
 replace hD := hD.after hb
 replace hT := hT.after hb
 replace hR := hR.after hb
 replace hKt := hKt.after hb
 clear hb
 show wpList _ _ _ [_] _ _
 refine tail_op rfl (fun K hK => ?_)
 have q30 := gL zl 1
 have q31 := gL zl 0
 go_simp
 refine (c_put64 T t _ _ _ _ L8 _ hT hL8' (by omega) (by rw [Array.size_setIfInBounds, zs_size]; omega) (fun i hi => ⟨0, by rw [Array.getElem?_setIfInBounds_ne (by omega), zs_get (by omega)]⟩)).mono ?_
 rintro e w2 ⟨rfl, hg2, hb2⟩
 clear q30 q31
 refine hK _ _ (tP hs hd zl ?_)
 clear hK K hs hd zl
 intro a hs hd zl
 replace hG := hG.via hg2 hT0
 replace hD := hD.gbfar hg2 hTg
 replace hR := hR.gbfar hg2 hRT.symm
 replace hKt := hKt.gb hg2 (by omega)
 replace hT := hb2
 rw [← hL8.out] at hT
 clear hg2
 obtain ⟨p, hp⟩ : ∃ p, Is (shaTail m.length) p := is_self _
 have hpl : p.length = t + 8 := by rw [← hp.out]; exact shaTail_length h1 ht
 have hPB : Bs _ (some ⟨T, 0, none⟩) p := fun i hi => ⟨T, 0, rfl, hT.lt, by rw [hT.cell, Nat.zero_add, ← hp.out]; exact shaTail_at h1 h2 ht (by omega)⟩
 obtain ⟨s32, s31, s30, s6, -, -, s0, s2, -, -, -, -⟩ := zl
 rw [← hpl] at s6
 have hpH := Is.hid hpl
 clear hpl
 clear s30 s31 s32
 clear q2 q3 q4 q5
 refine wp_seq ?_
 refine fl2 (F := [(0, _), (2, _), (6, _)]) [.eq 33 _, .eq 34 _] 2 hs hd ⟨s0, s2, s6, trivial⟩
  ⟨(stp rfl fun a u hb hs hl hd K hK => by have s0 := gL hl 0; clear hd; go_simp; exact kE hK hs),
   (stp rfl fun a u hb hs hl hd K hK => by have s6 := gL hl 2; clear hd; go_simp; exact kE hK hs),
   trivial⟩ ?_
 clear hs hd s0 s2 s6
 intro a w hb hs hd zl hh
 replace zl := lH hh 0 zl
 replace zl := lH hh 1 zl
 clear hh
 replace hG := hG.after hb
 replace hD := hD.after hb
 replace hR := hR.after hb
 replace hKt := hKt.after hb
 replace hPB := hPB.after hb
 clear hb
 show wpList _ _ _ [_] _ _
 refine tail_op rfl (fun K hK => ?_)
 have q33 := gL zl 1
 have q34 := gL zl 0
 go_simp
 refine (c_Write g 72 m p (some ⟨T, 0, none⟩) _ (.inr ⟨_, _, rfl⟩) hD hPB (fun _ e => hTg (by injection e)) (by have := hpH.out; omega) hm8 (by rw [← hp.out]; exact shaTail_bytes _) (by have := hpH.out; omega) hKt hg0).mono ?_
 rintro e w2 ⟨rfl, hg2, hD2⟩
 clear q33 q34
 refine hK _ _ (tP hs hd zl ?_)
 clear hK K hs hd zl
 intro a hs hd zl
 replace hG := hG.trans hg2
 replace hR := hR.gbfar hg2 hRg.symm
 rw [← hp.out] at hD2
 obtain ⟨x, ⟨hx, -⟩, hg, -⟩ := hD2
 have hmod := padded_mod m
 unfold padded at hmod
 rw [hmod] at hg
 obtain ⟨S, hS⟩ : ∃ S, Is (shaBlks (m ++ shaTail m.length) 0 ((m ++ shaTail m.length).length / 64) sha0) S := is_self _
 rw [hS.out] at hg
 have hU : St32 S := by rw [← hS.out]; exact shaBlks_U32 _ _ _ _ sha0_U32
 obtain ⟨LN, hLN⟩ : ∃ LN : Int, Is (((m ++ shaTail m.length).length : Nat) : Int) LN := is_self _
 rw [hLN.out] at hg
 replace hg : Blk _ g 122 (dig S x 0 LN) := hg
 clear hD hPB hKt hg2 hmod
 refine wp_seq ?_
 refine wp_seq ?_
 have c2 := (hg.cell 72).trans (dig_get_nx S x 0 LN hx)
 refine fl2 [.eq 36 _, .eq 37 _, .eq 38 _, .eq 39 _] 4 hs hd zl
  ⟨(stp rfl fun a u hb hs hl hd K hK => by have s0 := gL hl 3; clear hd; go_simp; exact kE hK hs),
   (stp rfl fun a u hb hs hl hd K hK => by have s36 := gD hd 0; clear hd; go_simp; exact kE hK hs),
   (stp rfl fun a u hb hs hl hd K hK => by have s37 := gD hd 1; clear hd; go_simp; exact kE hK hs),
   (stp rfl fun a u hb hs hl hd K hK => by have s38 := gD hd 2; have c2 := cell_up hb c2; clear hd; go_simp; exact kE hK hs),
   trivial⟩ ?_
 clear hs hd zl
 intro a w hb hs hd zl hh
 replace zl := lH hh 3 zl
 clear hh
 replace hG := hG.after hb
 replace hg := hg.after hb
 replace hR := hR.after hb
 replace c2 := cell_up hb c2
 clear hb
 show wpList _ _ _ [_] _ _
 refine tail_op rfl (fun K hK => ?_)
 have q39 := gL zl 0
 go_simp
 clear q39
 refine hK _ _ (tP hs hd zl ?_)
 clear hK K hs hd zl
 intro a hs hd zl
 clear c2
 refine wp_cond_false (vL zl 0) ?_
 refine wp_skip ?_
 refine wp_seq ?_
 refine wp_region_list ?_
 show wpList _ _ _ [_] _ _
 refine tail_op rfl (fun K hK => ?_)
 go_simp
 refine hK _ _ (tP hs hd zl ?_)
 clear hK K hs hd zl
 intro a hs hd zl
 obtain ⟨D, hDe⟩ : ∃ D, Is w.heap.size D := is_self _
 have hgD : D ≠ g := by have := hg.lt; rw [← hDe.out]; omega
 have hRD : D ≠ R0 := by have := hR.lt; rw [← hDe.out]; omega
 have hD0 : w0.heap.size ≤ D := by rw [← hDe.out]; exact hG.size
 generalize hw1 : World.alloc w _ = w1
 have hDd : Blk w1 D 126 (putX (zs 32) 0 []) := by rw [← hw1, ← hDe.out, putX_nil]; exact Blk.new w _ _
 have hB1 : Below w.heap.size w w1 := by rw [← hw1]; exact bz_alloc (bz_refl w) _
 replace hG := hG.after hB1
 replace hg := hg.after hB1
 replace hR := hR.after hB1
 obtain ⟨s7, s40, -, -, -, -, s0, s2, -, -⟩ := zl
 rw [hDe.out] at s7
 clear hw1 hB1 hDe
 clear s40
 refine wp_seq ?_
 have c := (hg.cell 0).trans (show (dig S x 0 LN)[0]? = some (.int .u32 S.a) from rfl)
 refine fl2 (F := [(0, _), (2, _), (7, _)]) [.eq 42 _, .eq 43 _, .eq 44 _, .eq 45 _, .eq 46 _, .eq 47 _] 6 hs hd ⟨s0, s2, s7, trivial⟩
  ⟨(stp rfl fun a u hb hs hl hd K hK => by have s7 := gL hl 2; clear hd; go_simp; exact kE hK hs),
   (stp rfl fun a u hb hs hl hd K hK => by have s0 := gL hl 0; clear hd; go_simp; exact kE hK hs),
   (stp rfl fun a u hb hs hl hd K hK => by have s43 := gD hd 1; clear hd; go_simp; exact kE hK hs),
   (stp rfl fun a u hb hs hl hd K hK => by have s44 := gD hd 2; clear hd; go_simp; exact kE hK hs),
   (stp rfl fun a u hb hs hl hd K hK => by have s45 := gD hd 3; clear hd; go_simp; exact kE hK hs),
   (stp rfl fun a u hb hs hl hd K hK => by have s46 := gD hd 4; have c := cell_up hb c; clear hd; go_simp; exact kE hK hs),
   trivial⟩ ?_
 clear hs hd s0 s2 s7
 intro a w hb hs hd zl hh
 replace zl := lH hh 0 zl
 replace zl := lH hh 5 zl
 clear hh
 replace hG := hG.after hb
 replace hg := hg.after hb
 replace hR := hR.after hb
 replace hDd := hDd.after hb
 replace c := cell_up hb c
 clear hb
 show wpList _ _ _ [_] _ _
 refine tail_op rfl (fun K hK => ?_)
 have q42 := gL zl 1
 have q47 := gL zl 0
 go_simp
 refine (c_putD (D := D) (i := 0) (l := ([] : List Int)) (v := S.a) rfl (by decide) (by have h := hU; unfold St32 at h; simp only [h]) hDd _ _ _ rfl rfl).mono ?_
 rintro e w2 ⟨rfl, hg2, hb2⟩
 clear q42 q47
 refine hK _ _ (tP hs hd zl ?_)
 clear hK K hs hd zl
 intro a hs hd zl
 replace hG := hG.via hg2 hD0
 replace hg := hg.gbfar hg2 hgD
 replace hR := hR.gbfar hg2 hRD
 replace hDd := hb2
 clear hg2
 clear c
 refine wp_seq ?_
 have c := (hg.cell 1).trans (show (dig S x 0 LN)[1]? = some (.int .u32 S.b) from rfl)
 refine fl2 [.eq 49 _, .eq 50 _, .eq 51 _, .eq 52 _, .eq 53 _, .eq 54 _] 6 hs hd zl
  ⟨(stp rfl fun a u hb hs hl hd K hK => by have s7 := gL hl 5; clear hd; go_simp; exact kE hK hs),
   (stp rfl fun a u hb hs hl hd K hK => by have s0 := gL hl 3; clear hd; go_simp; exact kE hK hs),
   (stp rfl fun a u hb hs hl hd K hK => by have s50 := gD hd 1; clear hd; go_simp; exact kE hK hs),
   (stp rfl fun a u hb hs hl hd K hK => by have s51 := gD hd 2; clear hd; go_simp; exact kE hK hs),
   (stp rfl fun a u hb hs hl hd K hK => by have s52 := gD hd 3; clear hd; go_simp; exact kE hK hs),
   (stp rfl fun a u hb hs hl hd K hK => by have s53 := gD hd 4; have c := cell_up hb c; clear hd; go_simp; exact kE hK hs),
   trivial⟩ ?_
 clear hs hd zl
 intro a w hb hs hd zl hh
 replace zl := lH hh 0 zl
 replace zl := lH hh 5 zl
 clear hh
 replace hG := hG.after hb
 replace hg := hg.after hb
 replace hR := hR.after hb
 replace hDd := hDd.after hb
 replace c := cell_up hb c
 clear hb
 show wpList _ _ _ [_] _ _
 refine tail_op rfl (fun K hK => ?_)
 have q49 := gL zl 1
 have q54 := gL zl 0
 go_simp
 refine (c_putD (D := D) (i := 1) (l := ([] : List Int) ++ be32 S.a) (v := S.b) rfl (by decide) (by have h := hU; unfold St32 at h; simp only [h]) hDd _ _ _ rfl rfl).mono ?_
 rintro e w2 ⟨rfl, hg2, hb2⟩
 clear q49 q54
 refine hK _ _ (tP hs hd zl ?_)
 clear hK K hs hd zl
 intro a hs hd zl
 replace hG := hG.via hg2 hD0
 replace hg := hg.gbfar hg2 hgD
 replace hR := hR.gbfar hg2 hRD
 replace hDd := hb2
 clear hg2
 clear c
 refine wp_seq ?_
 have c := (hg.cell 2).trans (show (dig S x 0 LN)[2]? = some (.int .u32 S.c) from rfl)
 refine fl2 [.eq 56 _, .eq 57 _, .eq 58 _, .eq 59 _, .eq 60 _, .eq 61 _] 6 hs hd zl
  ⟨(stp rfl fun a u hb hs hl hd K hK => by have s7 := gL hl 8; clear hd; go_simp; exact kE hK hs),
   (stp rfl fun a u hb hs hl hd K hK => by have s0 := gL hl 6; clear hd; go_simp; exact kE hK hs),
   (stp rfl fun a u hb hs hl hd K hK => by have s57 := gD hd 1; clear hd; go_simp; exact kE hK hs),
   (stp rfl fun a u hb hs hl hd K hK => by have s58 := gD hd 2; clear hd; go_simp; exact kE hK hs),
   (stp rfl fun a u hb hs hl hd K hK => by have s59 := gD hd 3; clear hd; go_simp; exact kE hK hs),
   (stp rfl fun a u hb hs hl hd K hK => by have s60 := gD hd 4; have c := cell_up hb c; clear hd; go_simp; exact kE hK hs),
   trivial⟩ ?_
 clear hs hd zl
 intro a w hb hs hd zl hh
 replace zl := lH hh 0 zl
 replace zl := lH hh 5 zl
 clear hh
 replace hG := hG.after hb
 replace hg := hg.after hb
 replace hR := hR.after hb
 replace hDd := hDd.after hb
 replace c := cell_up hb c
 clear hb
 show wpList _ _ _ [_] _ _
 refine tail_op rfl (fun K hK => ?_)
 have q56 := gL zl 1
 have q61 := gL zl 0
 go_simp
 refine (c_putD (D := D) (i := 2) (l := ([] : List Int) ++ be32 S.a ++ be32 S.b) (v := S.c) rfl (by decide) (by have h := hU; unfold St32 at h; simp only [h]) hDd _ _ _ rfl rfl).mono ?_
 rintro e w2 ⟨rfl, hg2, hb2⟩
 clear q56 q61
 refine hK _ _ (tP hs hd zl ?_)
 clear hK K hs hd zl
 intro a hs hd zl
 replace hG := hG.via hg2 hD0
 replace hg := hg.gbfar hg2 hgD
 replace hR := hR.gbfar hg2 hRD
 replace hDd := hb2
 clear hg2
 clear c
 refine wp_seq ?_
 have c := (hg.cell 3).trans (show (dig S x 0 LN)[3]? = some (.int .u32 S.d) from rfl)
 refine fl2 [.eq 63 _, .eq 64 _, .eq 65 _, .eq 66 _, .eq 67 _, .eq 68 _] 6 hs hd zl
  ⟨(stp rfl fun a u hb hs hl hd K hK => by have s7 := gL hl 11; clear hd; go_simp; exact kE hK hs),
   (stp rfl fun a u hb hs hl hd K hK => by have s0 := gL hl 9; clear hd; go_simp; exact kE hK hs),
   (stp rfl fun a u hb hs hl hd K hK => by have s64 := gD hd 1; clear hd; go_simp; exact kE hK hs),
   (stp rfl fun a u hb hs hl hd K hK => by have s65 := gD hd 2; clear hd; go_simp; exact kE hK hs),
   (stp rfl fun a u hb hs hl hd K hK => by have s66 := gD hd 3; clear hd; go_simp; exact kE hK hs),
   (stp rfl fun a u hb hs hl hd K hK => by have s67 := gD hd 4; have c := cell_up hb c; clear hd; go_simp; exact kE hK hs),
   trivial⟩ ?_
 clear hs hd zl
 intro a w hb hs hd zl hh
 replace zl := lH hh 0 zl
 replace zl := lH hh 5 zl
 clear hh
 replace hG := hG.after hb
 replace hg := hg.after hb
 replace hR := hR.after hb
 replace hDd := hDd.after hb
 replace c := cell_up hb c
 clear hb
 show wpList _ _ _ [_] _ _
 refine tail_op rfl (fun K hK => ?_)
 have q63 := gL zl 1
 have q68 := gL zl 0
 go_simp
 refine (c_putD (D := D) (i := 3) (l := ([] : List Int) ++ be32 S.a ++ be32 S.b ++ be32 S.c) (v := S.d) rfl (by decide) (by have h := hU; unfold St32 at h; simp only [h]) hDd _ _ _ rfl rfl).mono ?_
 rintro e w2 ⟨rfl, hg2, hb2⟩
 clear q63 q68
 refine hK _ _ (tP hs hd zl ?_)
 clear hK K hs hd zl
 intro a hs hd zl
 replace hG := hG.via hg2 hD0
 replace hg := hg.gbfar hg2 hgD
 replace hR := hR.gbfar hg2 hRD
 replace hDd := hb2
 clear hg2
 clear c
 refine wp_seq ?_
 have c := (hg.cell 4).trans (show (dig S x 0 LN)[4]? = some (.int .u32 S.e) from rfl)
 refine fl2 [.eq 70 _, .eq 71 _, .eq 72 _, .eq 73 _, .eq 74 _, .eq 75 _] 6 hs hd zl
  ⟨(stp rfl fun a u hb hs hl hd K hK => by have s7 := gL hl 14; clear hd; go_simp; exact kE hK hs),
   (stp rfl fun a u hb hs hl hd K hK => by have s0 := gL hl 12; clear hd; go_simp; exact kE hK hs),
   (stp rfl fun a u hb hs hl hd K hK => by have s71 := gD hd 1; clear hd; go_simp; exact kE hK hs),
   (stp rfl fun a u hb hs hl hd K hK => by have s72 := gD hd 2; clear hd; go_simp; exact kE hK hs),
   (stp rfl fun a u hb hs hl hd K hK => by have s73 := gD hd 3; clear hd; go_simp; exact kE hK hs),
   (stp rfl fun a u hb hs hl hd K hK => by have s74 := gD hd 4; have c := cell_up hb c; clear hd; go_simp; exact kE hK hs),
   trivial⟩ ?_
 clear hs hd zl
 intro a w hb hs hd zl hh
 replace zl := lH hh 0 zl
 replace zl := lH hh 5 zl
 clear hh
 replace hG := hG.after hb
 replace hg := hg.after hb
 replace hR := hR.after hb
 replace hDd := hDd.after hb
 replace c := cell_up hb c
 clear hb
 show wpList _ _ _ [_] _ _
 refine tail_op rfl (fun K hK => ?_)
 have q70 := gL zl 1
 have q75 := gL zl 0
 go_simp
 refine (c_putD (D := D) (i := 4) (l := ([] : List Int) ++ be32 S.a ++ be32 S.b ++ be32 S.c ++ be32 S.d) (v := S.e) rfl (by decide) (by have h := hU; unfold St32 at h; simp only [h]) hDd _ _ _ rfl rfl).mono ?_
 rintro e w2 ⟨rfl, hg2, hb2⟩
 clear q70 q75
 refine hK _ _ (tP hs hd zl ?_)
 clear hK K hs hd zl
 intro a hs hd zl
 replace hG := hG.via hg2 hD0
 replace hg := hg.gbfar hg2 hgD
 replace hR := hR.gbfar hg2 hRD
 replace hDd := hb2
 clear hg2
 clear c
 refine wp_seq ?_
 have c := (hg.cell 5).trans (show (dig S x 0 LN)[5]? = some (.int .u32 S.f) from rfl)
 refine fl2 [.eq 77 _, .eq 78 _, .eq 79 _, .eq 80 _, .eq 81 _, .eq 82 _] 6 hs hd zl
  ⟨(stp rfl fun a u hb hs hl hd K hK => by have s7 := gL hl 17; clear hd; go_simp; exact kE hK hs),
   (stp rfl fun a u hb hs hl hd K hK => by have s0 := gL hl 15; clear hd; go_simp; exact kE hK hs),
   (stp rfl fun a u hb hs hl hd K hK => by have s78 := gD hd 1; clear hd; go_simp; exact kE hK hs),
   (stp rfl fun a u hb hs hl hd K hK => by have s79 := gD hd 2; clear hd; go_simp; exact kE hK hs),
   (stp rfl fun a u hb hs hl hd K hK => by have s80 := gD hd 3; clear hd; go_simp; exact kE hK hs),
   (stp rfl fun a u hb hs hl hd K hK => by have s81 := gD hd 4; have c := cell_up hb c; clear hd; go_simp; exact kE hK hs),
   trivial⟩ ?_
 clear hs hd zl
 intro a w hb hs hd zl hh
 replace zl := lH hh 0 zl
 replace zl := lH hh 5 zl
 clear hh
 replace hG := hG.after hb
 replace hg := hg.after hb
 replace hR := hR.after hb
 replace hDd := hDd.after hb
 replace c := cell_up hb c
 clear hb
 show wpList _ _ _ [_] _ _
 refine tail_op rfl (fun K hK => ?_)
 have q77 := gL zl 1
 have q82 := gL zl 0
 go_simp
 refine (c_putD (D := D) (i := 5) (l := ([] : List Int) ++ be32 S.a ++ be32 S.b ++ be32 S.c ++ be32 S.d ++ be32 S.e) (v := S.f) rfl (by decide) (by have h := hU; unfold St32 at h; simp only [h]) hDd _ _ _ rfl rfl).mono ?_
 rintro e w2 ⟨rfl, hg2, hb2⟩
 clear q77 q82
 refine hK _ _ (tP hs hd zl ?_)
 clear hK K hs hd zl
 intro a hs hd zl
 replace hG := hG.via hg2 hD0
 replace hg := hg.gbfar hg2 hgD
 replace hR := hR.gbfar hg2 hRD
 replace hDd := hb2
 clear hg2
 clear c
 refine wp_seq ?_
 have c := (hg.cell 6).trans (show (dig S x 0 LN)[6]? = some (.int .u32 S.g) from rfl)
 refine fl2 [.eq 84 _, .eq 85 _, .eq 86 _, .eq 87 _, .eq 88 _, .eq 89 _] 6 hs hd zl
  ⟨(stp rfl fun a u hb hs hl hd K hK => by have s7 := gL hl 20; clear hd; go_simp; exact kE hK hs),
   (stp rfl fun a u hb hs hl hd K hK => by have s0 := gL hl 18; clear hd; go_simp; exact kE hK hs),
   (stp rfl fun a u hb hs hl hd K hK => by have s85 := gD hd 1; clear hd; go_simp; exact kE hK hs),
   (stp rfl fun a u hb hs hl hd K hK => by have s86 := gD hd 2; clear hd; go_simp; exact kE hK hs),
   (stp rfl fun a u hb hs hl hd K hK => by have s87 := gD hd 3; clear hd; go_simp; exact kE hK hs),
   (stp rfl fun a u hb hs hl hd K hK => by have s88 := gD hd 4; have c := cell_up hb c; clear hd; go_simp; exact kE hK hs),
   trivial⟩ ?_
 clear hs hd zl
 intro a w hb hs hd zl hh
 replace zl := lH hh 0 zl
 replace zl := lH hh 5 zl
 clear hh
 replace hG := hG.after hb
 replace hg := hg.after hb
 replace hR := hR.after hb
 replace hDd := hDd.after hb
 replace c := cell_up hb c
 clear hb
 show wpList _ _ _ [_] _ _
 refine tail_op rfl (fun K hK => ?_)
 have q84 := gL zl 1
 have q89 := gL zl 0
 go_simp
 refine (c_putD (D := D) (i := 6) (l := ([] : List Int) ++ be32 S.a ++ be32 S.b ++ be32 S.c ++ be32 S.d ++ be32 S.e ++ be32 S.f) (v := S.g) rfl (by decide) (by have h := hU; unfold St32 at h; simp only [h]) hDd _ _ _ rfl rfl).mono ?_
 rintro e w2 ⟨rfl, hg2, hb2⟩
 clear q84 q89
 refine hK _ _ (tP hs hd zl ?_)
 clear hK K hs hd zl
 intro a hs hd zl
 replace hG := hG.via hg2 hD0
 replace hg := hg.gbfar hg2 hgD
 replace hR := hR.gbfar hg2 hRD
 replace hDd := hb2
 clear hg2
 clear c
 refine wp_seq ?_
 refine wp_seq ?_
 have c4 := (hg.cell 74).trans (dig_get_224 S x 0 LN hx)
 refine fl2 [.eq 91 _, .eq 92 _, .eq 93 _, .eq 94 _] 4 hs hd zl
  ⟨(stp rfl fun a u hb hs hl hd K hK => by have s0 := gL hl 21; clear hd; go_simp; exact kE hK hs),
   (stp rfl fun a u hb hs hl hd K hK => by have s91 := gD hd 0; clear hd; go_simp; exact kE hK hs),
   (stp rfl fun a u hb hs hl hd K hK => by have s92 := gD hd 1; clear hd; go_simp; exact kE hK hs),
   (stp rfl fun a u hb hs hl hd K hK => by have s93 := gD hd 2; have c4 := cell_up hb c4; clear hd; go_simp; exact kE hK hs),
   trivial⟩ ?_
 clear hs hd zl
 intro a w hb hs hd zl hh
 replace zl := lH hh 3 zl
 clear hh
 replace hG := hG.after hb
 replace hg := hg.after hb
 replace hR := hR.after hb
 replace hDd := hDd.after hb
 replace c4 := cell_up hb c4
 clear hb
 show wpList _ _ _ [_] _ _
 refine tail_op rfl (fun K hK => ?_)
 have q94 := gL zl 0
 go_simp
 clear q94
 refine hK _ _ (tP hs hd zl ?_)
 clear hK K hs hd zl
 intro a hs hd zl
 clear c4
 refine wp_cond_true (vL zl 0) ?_
 have c := (hg.cell 7).trans (show (dig S x 0 LN)[7]? = some (.int .u32 S.h) from rfl)
 refine fl2 [.eq 96 _, .eq 97 _, .eq 98 _, .eq 99 _, .eq 100 _, .eq 101 _] 6 hs hd zl
  ⟨(stp rfl fun a u hb hs hl hd K hK => by have s7 := gL hl 25; clear hd; go_simp; exact kE hK hs),
   (stp rfl fun a u hb hs hl hd K hK => by have s0 := gL hl 23; clear hd; go_simp; exact kE hK hs),
   (stp rfl fun a u hb hs hl hd K hK => by have s97 := gD hd 1; clear hd; go_simp; exact kE hK hs),
   (stp rfl fun a u hb hs hl hd K hK => by have s98 := gD hd 2; clear hd; go_simp; exact kE hK hs),
   (stp rfl fun a u hb hs hl hd K hK => by have s99 := gD hd 3; clear hd; go_simp; exact kE hK hs),
   (stp rfl fun a u hb hs hl hd K hK => by have s100 := gD hd 4; have c := cell_up hb c; clear hd; go_simp; exact kE hK hs),
   trivial⟩ ?_
 clear hs hd zl
 intro a w hb hs hd zl hh
 replace zl := lH hh 0 zl
 replace zl := lH hh 5 zl
 clear hh
 replace hG := hG.after hb
 replace hg := hg.after hb
 replace hR := hR.after hb
 replace hDd := hDd.after hb
 replace c := cell_up hb c
 clear hb
 show wpList _ _ _ [_] _ _
 refine tail_op rfl (fun K hK => ?_)
 have q96 := gL zl 1
 have q101 := gL zl 0
 go_simp
 refine (c_putD (D := D) (i := 7) (l := ([] : List Int) ++ be32 S.a ++ be32 S.b ++ be32 S.c ++ be32 S.d ++ be32 S.e ++ be32 S.f ++ be32 S.g) (v := S.h) rfl (by decide) (by have h := hU; unfold St32 at h; simp only [h]) hDd _ _ _ rfl rfl).mono ?_
 rintro e w2 ⟨rfl, hg2, hb2⟩
 clear q96 q101
 refine hK _ _ (tP hs hd zl ?_)
 clear hK K hs hd zl
 intro a hs hd zl
 replace hG := hG.via hg2 hD0
 replace hg := hg.gbfar hg2 hgD
 replace hR := hR.gbfar hg2 hRD
 replace hDd := hb2
 clear hg2
 clear c
 refine wp_seq ?_
 refine wp_region_list ?_
 have s7 := vL zl 28
 refine wpList_load_part rfl 126 (.tmp 7) rfl D 0 s7 126 _ 32 _ hDd (by rw [putX_size _ _ _ (by rw [zs_size]; exact Nat.le_refl 32), zs_size]; omega) rfl rfl (by kernel_rfl) ?_
 rw [putX_ext _ rfl]
 refine tP hs hd zl ?_
 clear hs hd zl s7
 intro a hs hd zl
 have s2 := vL zl 28
 have s103 := vL zl 0
 refine wpList_store_row rfl 126 (.tmp 2) (.tmp 103) rfl R0 s2 _ s103 126 (zs 32) hR (by rw [zs_size]; rfl) (by kernel_rfl) (one_u8 _) ?_
 show Code.wp _ _ _ _ _
 refine wp_ret ?_
 have e : shaOut S = sha m := by unfold sha padded; rw [hS.out]
 refine end_row rfl R0 s2 hd.out 126 _ _ (hR.setRow _) rfl rfl (by kernel_rfl) ?_
 have := hQ _ (hG.via (gb_setRow _ R0 ((shaOut S).map (Value.int .u8)).toArray) hR0) (((hg.setRow_far hRg.symm _).cell 74).trans (dig_get_224 S x 0 LN hx))
 rw [← e] at this
 exact this
set_option maxHeartbeats 4000000 in
set_option maxRecDepth 100000 in

/-- The sum of what a digest has taken up. -/
theorem c_checkSum (g : Nat) (m : List Int) (w : World) (hD : Dst w g m) (hm8 : Bytes m) (hlen : m.length ≤ 900000000000) (hKt : KTab w 0) (hg0 : g ≠ 0) :
  Calls Tryd.prog 80 #[.pointer (some ⟨g, 0, none⟩)] w fun e w' => e = .returned (arr32 (sha m)) ∧ w.grownBy w' (some g) ∧ w'.cell? ⟨g, 74, none⟩ = some (.bool false) := by
 have c3 : w.cell? ⟨g, 73, none⟩ = some (.int .u64 ((m.length : Nat) : Int)) := by obtain ⟨x, ⟨hx, -⟩, hg, hb⟩ := hD; exact (hg.cell 73).trans (dig_get_ln _ _ _ _ hx)
 have hKlt : 0 < w.heap.size := World.block_lt_of_cell? w _ (hKt 0 (by decide))
 suffices h : ∀ w0, GB w0 w g → g < w0.heap.size → 0 < w0.heap.size → Calls Tryd.prog 80 #[.pointer (some ⟨g, 0, none⟩)] w fun e w' => e = .returned (arr32 (sha m)) ∧ GB w0 w' g ∧ w'.cell? ⟨g, 74, none⟩ = some (.bool false) from h w (GB.refl w g) hD.lt hKlt
 clear hKlt
 intro w0 hG hgw hKw
 refine enter_abs Tryd.func80 rfl 104 rfl (by simp) ?_
 intro a hs hd hargs
 have s0 := hargs 0 _ rfl
 clear hargs
 refine wp_seq ?_
 refine wp_region_list ?_
 show wpList _ _ _ [_] _ _
 refine tail_op rfl (fun K hK => ?_)
 go_simp
 refine hK _ _ ?_
 clear hK K
 refine act_put (d := 2) _ hs hd (by decide) [(0, _)] ⟨s0, trivial⟩ rfl ?_
 clear hs hd s0
 intro a hs hd zl
 obtain ⟨R0, hE⟩ : ∃ B, Is w.heap.size B := is_self _
 
 have R00 : w0.heap.size ≤ R0 := by rw [← hE.out]; exact hG.size
 generalize hw1 : World.alloc w _ = w1
 have hR : Blk w1 R0 126 (zs 32) := by rw [← hw1, ← hE.out]; exact Blk.new w _ _
 have hB1 : Below w.heap.size w w1 := by rw [← hw1]; exact bz_alloc (bz_refl w) _
 replace hG := hG.after hB1
 replace hD := hD.after hB1
 replace hKt := hKt.after hB1
 obtain ⟨s2, s0, -⟩ := zl
 rw [hE.out] at s2
 replace c3 := cell_up hB1 c3
 clear hw1 hB1 hE
 refine wp_seq ?_
 refine fl2 (F := [(0, _), (2, _)]) [.eq 8 _, .eq 9 _, .eq 10 _, .eq 11 _] 4 hs hd ⟨s0, s2, trivial⟩
  ⟨(stp rfl fun a u hb hs hl hd K hK => by have s0 := gL hl 0; clear hd; go_simp; exact kE hK hs),
   (stp rfl fun a u hb hs hl hd K hK => by have s8 := gD hd 0; clear hd; go_simp; exact kE hK hs),
   (stp rfl fun a u hb hs hl hd K hK => by have s9 := gD hd 1; clear hd; go_simp; exact kE hK hs),
   (stp rfl fun a u hb hs hl hd K hK => by have s10 := gD hd 2; have c3 := cell_up hb c3; clear hd; go_simp; exact kE hK hs),
   trivial⟩ ?_
 clear hs hd s0 s2
 intro a w hb hs hd zl hh
 replace zl := lH hh 3 zl
 clear hh
 replace hG := hG.after hb
 replace hD := hD.after hb
 replace hKt := hKt.after hb
 replace hR := hR.after hb
 replace c3 := cell_up hb c3
 clear hb
 show wpList _ _ _ [_] _ _
 refine tail_op rfl (fun K hK => ?_)
 have q11 := gL zl 0
 go_simp
 clear q11
 refine hK _ _ (tP hs hd zl ?_)
 clear hK K hs hd zl
 intro a hs hd zl
 clear c3
 refine wp_seq ?_
 refine wp_region_list ?_
 show wpList _ _ _ [_] _ _
 refine tail_op rfl (fun K hK => ?_)
 go_simp
 refine hK _ _ (tP hs hd zl ?_)
 clear hK K hs hd zl
 intro a hs hd zl
 obtain ⟨T, hE⟩ : ∃ B, Is w.heap.size B := is_self _
 have hRT : R0 ≠ T := by have := hR.lt; rw [← hE.out]; omega
 have T0 : w0.heap.size ≤ T := by rw [← hE.out]; exact hG.size
 generalize hw1 : World.alloc w _ = w1
 have hT : Blk w1 T 132 (zs 72) := by rw [← hw1, ← hE.out]; exact Blk.new w _ _
 have hB1 : Below w.heap.size w w1 := by rw [← hw1]; exact bz_alloc (bz_refl w) _
 replace hG := hG.after hB1
 replace hD := hD.after hB1
 replace hKt := hKt.after hB1
 obtain ⟨s4, s3, -, s0, s2, -⟩ := zl
 rw [hE.out] at s4
 replace hR := hR.after hB1
 clear hw1 hB1 hE
 refine wp_seq ?_
 refine fl2 (F := [(0, _), (2, _), (3, _), (4, _)]) [.eq 12 _] 1 hs hd ⟨s0, s2, s3, s4, trivial⟩
  ⟨(stp rfl fun a u hb hs hl hd K hK => by have s4 := gL hl 3; clear hd; go_simp; exact kE hK hs),
   trivial⟩ ?_
 clear hs hd s0 s2 s3 s4
 intro a w hb hs hd zl hh
 replace zl := lH hh 0 zl
 clear hh
 replace hG := hG.after hb
 replace hD := hD.after hb
 replace hKt := hKt.after hb
 replace hR := hR.after hb
 replace hT := hT.after hb
 clear hb
 show wpList _ _ _ [_] _ _
 refine tail_op rfl (fun K hK => ?_)
 have q12 := gL zl 0
 have hfr := hT.free 0
 have hold := (hT.cell 0).trans (zs_get (by omega))
 go_simp
 clear hfr hold
 clear q12
 refine hK _ _ ?_
 clear hK K
 change wpList _ _ _ _ a _
 replace hG := hG.setv T0 0 (.int .u8 128)
 replace hD := hD.gbfar (gb1 w T 0 (.int .u8 128)) (by omega)
 replace hKt := hKt.gb (gb1 w T 0 (.int .u8 128)) (by omega)
 replace hR := hR.gbfar (gb1 w T 0 (.int .u8 128)) hRT.symm
 replace hT := hT.set_ 0 (.int .u8 128)
 revert hG hD hKt hR hT
 generalize World.setCell _ _ _ = w
 intro hG hD hKt hR hT
 refine wp_seq ?_
 refine wp_region_list ?_
 show wpList _ _ _ [_] _ _
 refine tail_op rfl (fun K hK => ?_)
 go_simp
 refine hK _ _ (tP hs hd zl ?_)
 clear hK K hs hd zl
 intro a hs hd zl
 refine wp_seq ?_
 refine wp_seq ?_
 obtain ⟨r, hr⟩ : ∃ r, Is (m.length % 64) r := is_self _
 have hrv := hr.out
 have hmt : ((m.length : Nat) : Int).tmod 64 = (r : Int) := by rw [Int.tmod_eq_emod_of_nonneg (by omega)]; omega
 have hrH := Is.hid hrv
 by_cases hc : r < 56
 ·have hl1 : decide (r < 56) = true := decide_eq_true (by omega)
  have hl2 : decide ((r : Int) < 56) = true := decide_eq_true (by omega)
  obtain ⟨t, htv⟩ : ∃ t, Is (56 - r) t := is_self _
  have htv' := htv.out
  have h1 : 1 ≤ t := by omega
  have h2 : t ≤ 64 := by omega
  have ht : shaZeros m.length = t - 1 := by unfold shaZeros; omega
  have hw : IntKind.u64.wrap (56 - (r : Int)) = (t : Int) := by rw [IntKind.wrap_u64]; omega
  clear htv'
  refine fl2 [.eq 13 _, .eq 14 _] 2 hs hd zl
   ⟨(stp rfl fun a u hb hs hl hd K hK => by have s3 := gL hl 4; clear hd; go_simp; exact kE hK hs),
    (stp rfl fun a u hb hs hl hd K hK => by have s13 := gD hd 0; clear hd; go_simp; exact kE hK hs),
    trivial⟩ ?_
  clear hs hd zl
  intro a w hb hs hd zl hh
  replace zl := lH hh 1 zl
  clear hh
  replace hG := hG.after hb
  replace hD := hD.after hb
  replace hKt := hKt.after hb
  replace hR := hR.after hb
  replace hT := hT.after hb
  clear hb
  show wpList _ _ _ [_] _ _
  refine tail_op rfl (fun K hK => ?_)
  have q14 := gL zl 0
  go_simp
  clear q14
  refine hK _ _ (tP hs hd zl ?_)
  clear hK K hs hd zl
  intro a hs hd zl
  refine wp_cond_true (vL zl 0) ?_
  refine fl2 [.eq 16 _, .eq 17 _, .eq 18 _] 3 hs hd zl
   ⟨(stp rfl fun a u hb hs hl hd K hK => by have s3 := gL hl 6; clear hd; go_simp; exact kE hK hs),
    (stp rfl fun a u hb hs hl hd K hK => by have s16 := gD hd 0; clear hd; go_simp; exact kE hK hs),
    (stp rfl fun a u hb hs hl hd K hK => by have s17 := gD hd 1; clear hd; go_simp; exact kE hK hs),
    trivial⟩ ?_
  clear hs hd zl
  intro a w hb hs hd zl hh
  replace zl := lH hh 2 zl
  clear hh
  replace hG := hG.after hb
  replace hD := hD.after hb
  replace hKt := hKt.after hb
  replace hR := hR.after hb
  replace hT := hT.after hb
  clear hb
  show wpList _ _ _ [_] _ _
  refine tail_op rfl (fun K hK => ?_)
  have q18 := gL zl 0
  go_simp
  clear q18
  refine hK _ _ ?_
  clear hK K
  obtain ⟨s18, -, -, -, -, s0, s2, s3, s4, -⟩ := zl
  refine act_put (d := 5) _ hs hd (by decide) [(0, _), (2, _), (3, _), (4, _), (18, _)] ⟨s0, s2, s3, s4, s18, trivial⟩ rfl ?_
  clear hs hd s0 s2 s3 s4 s18
  intro a hs hd zl
  obtain ⟨s5, s0, s2, s3, s4, -, -⟩ := zl
  exact cs_rest a w hs hd s0 s2 s3 s4 s5 h1 h2 ht hm8 hlen hG hD hT hR hKt hg0 T0 R00 hgw hKw hRT (fun w' h h2 => ⟨rfl, h, h2⟩)
 ·have hl1 : decide (r < 56) = false := decide_eq_false (by omega)
  have hl2 : decide ((r : Int) < 56) = false := decide_eq_false (by omega)
  obtain ⟨t, htv⟩ : ∃ t, Is (120 - r) t := is_self _
  have htv' := htv.out
  have h1 : 1 ≤ t := by omega
  have h2 : t ≤ 64 := by omega
  have ht : shaZeros m.length = t - 1 := by unfold shaZeros; omega
  have hw : IntKind.u64.wrap (120 - (r : Int)) = (t : Int) := by rw [IntKind.wrap_u64]; omega
  clear htv'
  refine fl2 [.eq 13 _, .eq 14 _] 2 hs hd zl
   ⟨(stp rfl fun a u hb hs hl hd K hK => by have s3 := gL hl 4; clear hd; go_simp; exact kE hK hs),
    (stp rfl fun a u hb hs hl hd K hK => by have s13 := gD hd 0; clear hd; go_simp; exact kE hK hs),
    trivial⟩ ?_
  clear hs hd zl
  intro a w hb hs hd zl hh
  replace zl := lH hh 1 zl
  clear hh
  replace hG := hG.after hb
  replace hD := hD.after hb
  replace hKt := hKt.after hb
  replace hR := hR.after hb
  replace hT := hT.after hb
  clear hb
  show wpList _ _ _ [_] _ _
  refine tail_op rfl (fun K hK => ?_)
  have q14 := gL zl 0
  go_simp
  clear q14
  refine hK _ _ (tP hs hd zl ?_)
  clear hK K hs hd zl
  intro a hs hd zl
  refine wp_cond_false (vL zl 0) ?_
  refine fl2 [.eq 19 _, .eq 20 _, .eq 21 _] 3 hs hd zl
   ⟨(stp rfl fun a u hb hs hl hd K hK => by have s3 := gL hl 6; clear hd; go_simp; exact kE hK hs),
    (stp rfl fun a u hb hs hl hd K hK => by have s19 := gD hd 0; clear hd; go_simp; exact kE hK hs),
    (stp rfl fun a u hb hs hl hd K hK => by have s20 := gD hd 1; clear hd; go_simp; exact kE hK hs),
    trivial⟩ ?_
  clear hs hd zl
  intro a w hb hs hd zl hh
  replace zl := lH hh 2 zl
  clear hh
  replace hG := hG.after hb
  replace hD := hD.after hb
  replace hKt := hKt.after hb
  replace hR := hR.after hb
  replace hT := hT.after hb
  clear hb
  show wpList _ _ _ [_] _ _
  refine tail_op rfl (fun K hK => ?_)
  have q21 := gL zl 0
  go_simp
  clear q21
  refine hK _ _ ?_
  clear hK K
  obtain ⟨s21, -, -, -, -, s0, s2, s3, s4, -⟩ := zl
  refine act_put (d := 5) _ hs hd (by decide) [(0, _), (2, _), (3, _), (4, _), (21, _)] ⟨s0, s2, s3, s4, s21, trivial⟩ rfl ?_
  clear hs hd s0 s2 s3 s4 s21
  intro a hs hd zl
  obtain ⟨s5, s0, s2, s3, s4, -, -⟩ := zl
  exact cs_rest a w hs hd s0 s2 s3 s4 s5 h1 h2 ht hm8 hlen hG hD hT hR hKt hg0 T0 R00 hgw hKw hRT (fun w' h h2 => ⟨rfl, h, h2⟩)
end Go.Proofs.YtcmllcmcbamlbaaDoor
namespace Go.Proofs.YtcmllcmcbamlbaaDoor
open Go.RowKit
section
variable {P : Program} {o : Oper} {a : Act} {w : World} {Q : Exit → Act → World → Prop} {K : Act → World → Prop}
theorem op_load_row (ty : TypeId) (x : Operand) (ho : o.op = .load ty x) (g : Nat) (hx : a.eval x = .pointer (some ⟨g, 0, none⟩)) (t : TypeId) (cur : Array Value) (d : TypeDesc) (hg : Blk w g t cur)
  (hu : P.underlying ty = some d) (hd : (match d with | .struct _ | .array _ _ => true | _ => false) = true) (hi : (P.info? ty).map (·.size) = some cur.size)
  (h : K (a.put o.dst (.agg cur)) w) : o.wp P a w K Q := by
 unfold Oper.wp execOp
 have := run_load_part (P := P) ty g 0 t cur cur.size d hg (by omega) hu hd hi
 rw [Nat.zero_add, Array.extract_size] at this
 simp only [ho, hx, Instr.loadAt, Instr.sureAddr, Sem.run_bind, Sem.run_pure, Result.andThen_ok, this]
 exact h
theorem op_store_row (ty : TypeId) (x y : Operand) (ho : o.op = .store ty x y) (g : Nat) (hx : a.eval x = .pointer (some ⟨g, 0, none⟩)) (cs : Array Value) (hy : a.eval y = .agg cs)
  (t : TypeId) (cur : Array Value) (hg : Blk w g t cur) (hs : cs.size = cur.size) (hi : (P.info? ty).map (·.size) = some cs.size) (h1 : ∀ v ∈ cs.toList, v.oneCell' = true)
  (h : K (a.put o.dst undef) (w.setRow g cs)) : o.wp P a w K Q := by
 unfold Oper.wp execOp
 have := run_store_part (P := P) ty g 0 t cur cs hg (by omega) hi h1
 rw [putAt_whole cur cs hs] at this
 simp only [ho, hx, hy, Instr.storeAt, Instr.sureAddr, Sem.run_bind, Sem.run_pure, Result.andThen_ok, this]
 exact h
end
theorem op_app_u8 {o : Oper} {a : Act} {w : World} {Q : Exit → Act → World → Prop} {K : Act → World → Prop} (s x : Operand) (ho : o.op = .call { callee := .builtin .append, args := #[s, x], argTypes := #[23, 23] })
  {base : Nat} {A A2 : Option Addr} {c c2 : Nat} {l l2 : List Int} (hs : a.eval s = .slice A l.length c) (hx : a.eval x = .slice A2 l2.length c2) (hown : OwnB base w A c l) (hr : Bs w A2 l2) (hlen : l.length + l2.length ≤ 100000000000000) (hbase : base ≤ w.heap.size)
  (h : ∀ (l' : List Int) (A' : Option Addr) (c' : Nat) (w' : World), Is l' (l ++ l2) → l'.length ≤ l.length + l2.length → OwnB base w' A' c' l' → Below base w w' → w.grownBy w' (blkOf A) → (blkOf A' = blkOf A ∨ blkOf A' = some w.heap.size) → K (a.put o.dst (.slice A' l'.length c')) w') : o.wp Tryd.prog a w K Q := by
 obtain ⟨A', c', w', hrun, h2, h3, h4⟩ := run_app_u8 w o.type (c2 := c2) hown hr hlen hbase
 unfold Oper.wp execOp
 simp only [ho, resolve, invoke, builtin, Sem.run_bind, Sem.run_pure, Result.andThen_ok, List.map_toArray, List.map_cons, List.map_nil, hs, hx, hrun]
 exact h _ A' c' w' rfl (by simp) h2 (hown.below hbase h3) h3 h4

/-! ### What hands back bytes -/
/-- The form of a slice's address. -/
def Fm (A : Option Addr) (n c : Nat) : Prop := (A = none ∧ c = 0 ∧ n = 0) ∨ ∃ b o, A = some ⟨b, o, none⟩
def ReadB (w : World) (l : List Int) (e : Ending) (w' : World) : Prop :=
 ∃ l' A c, Is l' l ∧ e = .returned (.slice A l'.length c) ∧ Fm A l'.length c ∧ l'.length ≤ c ∧ Bs w' A l' ∧ (∀ k, blkOf A = some k → w.heap.size ≤ k ∧ k < w'.heap.size) ∧ Below w.heap.size w w'
theorem ReadB.mk' {w w' : World} {l l' : List Int} {A : Option Addr} {c : Nat} (hl : l' = l) (hf : Fm A l'.length c) (hc : l'.length ≤ c) (hb : Bs w' A l') (hn : ∀ k, blkOf A = some k → w.heap.size ≤ k ∧ k < w'.heap.size) (h : Below w.heap.size w w') : ReadB w l (.returned (.slice A l'.length c)) w' :=
 ⟨l', A, c, hl, rfl, hf, hc, hb, hn, h⟩
theorem OwnB.fm {base : Nat} {w : World} {A : Option Addr} {c : Nat} {l : List Int} (h : OwnB base w A c l) : Fm A l.length c := by
 rcases h.form with ⟨h1, h2, h3⟩ | ⟨g, cur, h1, _⟩
 ·exact .inl ⟨h1, h2, by rw [h3]; rfl⟩
 ·exact .inr ⟨g, 0, h1⟩
theorem OutB.read {w w' : World} {l : List Int} {e : Ending} (h : OutB w l e w') : ReadB w l e w' := by
 obtain ⟨l', A, c, hl, he, ho, hb⟩ := h
 exact ⟨l', A, c, hl, he, ho.fm, ho.cap, ho.bs, fun k hk => ho.blk_ge k hk, hb⟩
theorem Fm.arg {A : Option Addr} {p : List Int} {c : Nat} (h : Fm A p.length c) : (A = none ∧ c = 0 ∧ Is p []) ∨ ∃ b o, A = some ⟨b, o, none⟩ := by
 rcases h with ⟨h1, h2, h3⟩ | h
 ·exact .inl ⟨h1, h2, List.eq_nil_of_length_eq_zero h3⟩
 ·exact .inr h
/-- A block's bytes read as a slice. -/
theorem bs_u8s {w : World} {g : Nat} {t : TypeId} {l : List Int} (h : Blk w g t (l.map (Value.int .u8)).toArray) : Bs w (some ⟨g, 0, none⟩) l := fun i hi => ⟨g, 0, rfl, h.lt, by
 rw [h.cell, Nat.zero_add, List.getElem?_toArray, List.getElem?_map, List.getD_eq_getElem?_getD, List.getElem?_eq_getElem hi]
 rfl⟩
/-- A slot that holds bytes of a block from B on. -/
def BsAt (B : Nat) (l : List Int) (v : Value) (w : World) : Prop :=
 ∃ l' A c, Is l' l ∧ v = .slice A l'.length c ∧ Fm A l'.length c ∧ l'.length ≤ c ∧ Bs w A l' ∧ ∀ k, blkOf A = some k → B ≤ k ∧ k < w.heap.size
theorem BsAt.after {B : Nat} {l : List Int} {v : Value} {w w' : World} (h : BsAt B l v w) (hb : Below w.heap.size w w') : BsAt B l v w' := by
 obtain ⟨l', A, c, h1, h2, h3, h4, h5, h6⟩ := h
 exact ⟨l', A, c, h1, h2, h3, h4, h5.after hb, fun k hk => ⟨(h6 k hk).1, Nat.lt_of_lt_of_le (h6 k hk).2 hb.size⟩⟩
def FItem.bs (t B : Nat) (l : List Int) : FItem := { reads := [t], fact := fun vs w => ∃ v, vs = [v] ∧ BsAt B l v w, keeps := fun _ _ _ hb ⟨v, h1, h2⟩ => ⟨v, h1, h2.after hb⟩ }
theorem FItem.bs_holds {t B : Nat} {l : List Int} {a : Act} {w : World} : (FItem.bs t B l).holds a w ↔ BsAt B l (a.tmps.getD t undef) w := by
 constructor
 ·rintro ⟨v, h1, h2⟩
  injection h1 with h1
  have h1 : a.tmps.getD t undef = v := h1
  rwa [h1]
 ·exact fun h => ⟨_, rfl, h⟩
theorem bs_put {a : Act} {d B : Nat} {l : List Int} {v : Value} {w : World} {sz : Nat} (hs : SzIs a sz) (hd : d < sz) (h : BsAt B l v w) : (FItem.bs d B l).holds (a.put (some d) v) w := FItem.bs_holds.2 (by rw [put_self a d v (by rw [hs.out]; exact hd)]; exact h)
theorem ReadB.at_ {w w' : World} {l : List Int} {e : Ending} (h : ReadB w l e w') {B : Nat} (hB : B ≤ w.heap.size) : ∃ v, e = .returned v ∧ BsAt B l v w' ∧ Below w.heap.size w w' := by
 obtain ⟨l', A, c, h1, h2, h3, h4, h5, h6, h7⟩ := h
 exact ⟨_, h2, ⟨l', A, c, h1, rfl, h3, h4, h5, fun k hk => ⟨Nat.le_trans hB (h6 k hk).1, (h6 k hk).2⟩⟩, h7⟩
/-- The builtin copy into an array of 32 bytes. -/
theorem op_copy_32 {o : Oper} {a : Act} {w : World} {K : Act → World → Prop} {Q : Exit → Act → World → Prop} (d q : Operand) (ho : o.op = .call { callee := .builtin .copy, args := #[d, q], argTypes := #[23, 23] })
  {D dc : Nat} {A : Option Addr} {c : Nat} {l : List Int} (hdv : a.eval d = .slice (some ⟨D, 0, none⟩) 32 dc) (hqv : a.eval q = .slice A l.length c) (hg : Blk w D 126 (zs 32)) (hn : l.length = 32) (hl : Bs w A l)
  (h : ∀ w', w.grownBy w' (some D) → Blk w' D 126 (l.map (Value.int .u8)).toArray → K (a.put o.dst (.int .i64 32)) w') : o.wp Tryd.prog a w K Q := by
 obtain ⟨b, o', rfl, hb, hc⟩ := hl.at_ (by omega)
 have hlen : (l.map (Value.int .u8)).length = Nat.min l.length 32 := by rw [List.length_map, hn]; rfl
 have hr := run_copy_row (P := Tryd.prog) w 23 23 o.type 5 D 0 32 dc ⟨b, o', none⟩ l.length c _ 126 (l.map (Value.int .u8)) Tryd.underlying23 u8_size hg hlen
   (by
    intro j v hv
    rw [List.getElem?_map] at hv
    cases hlj : l[j]? with
    | none => rw [hlj] at hv; cases hv
    | some y =>
     rw [hlj] at hv
     have hjl : j < l.length := (List.getElem?_eq_some_iff.1 hlj).1
     have hadd : (⟨b, o', none⟩ : Addr).add j = ⟨b, o' + j, none⟩ := by unfold Addr.add; split <;> simp_all
     rw [hadd, hc j hjl, List.getD_eq_getElem?_getD, hlj]
     simpa using hv)
   (by rw [hlen, zs_size, hn]; decide) (u8_cells _)
 have he : ((zs 32).toList.take 0 ++ l.map (Value.int .u8) ++ (zs 32).toList.drop (0 + (l.map (Value.int .u8)).length)).toArray = (l.map (Value.int .u8)).toArray := by
  rw [List.length_map, hn]
  simp [zs]
 rw [he] at hr
 unfold Oper.wp execOp
 simp only [ho, resolve, invoke, builtin, Sem.run_bind, Sem.run_pure, Result.andThen_ok, List.map_toArray, List.map_cons, List.map_nil, hdv, hqv, hr]
 rw [hlen, hn]
 exact h _ (gb_setRow _ _ _) (hg.setRow _)
theorem Bs.far {w : World} {A : Option Addr} {p : List Int} {B : Nat} (h : Bs w A p) (hB : w.heap.size ≤ B) : Far A p (some B) := fun hx e => by
 obtain ⟨k, hk, hlt⟩ := h.blk hx
 rw [hk] at e
 injection e with e
 omega
theorem dig_zero : (dig ⟨0, 0, 0, 0, 0, 0, 0, 0⟩ (zs 64) 0 0).size = 75 := by rw [dig_size, zs_size]
theorem one_dig (s : ShaSt) (x : Array Value) (nx ln : Int) (hx : ∀ v ∈ x.toList, v.oneCell' = true) : ∀ v ∈ (dig s x nx ln).toList, v.oneCell' = true := by
 intro v hv
 unfold dig at hv
 simp only [List.toList_toArray, List.mem_cons, List.mem_append, List.not_mem_nil, or_false] at hv
 rcases hv with rfl | rfl | rfl | rfl | rfl | rfl | rfl | rfl | hv | rfl | rfl | rfl <;> first | rfl | exact hx v hv
end Go.Proofs.YtcmllcmcbamlbaaDoor
namespace Go.Proofs.YtcmllcmcbamlbaaDoor
open Go.RowKit
theorem one_zs (n : Nat) : One (zs n) := fun v hv => by
 unfold zs at hv
 rw [List.toList_toArray] at hv
 rw [List.eq_of_mem_replicate hv]
 rfl
def DZ : Array Value := dig ⟨0, 0, 0, 0, 0, 0, 0, 0⟩ (zs 64) 0 0
theorem Dst.set {w : World} {g : Nat} {m : List Int} {x : Array Value} (hx : x.size = 64) (h1 : One x) (hg : Blk w g 122 (dig (shaBlks m 0 (m.length / 64) sha0) x ((m.length % 64 : Nat) : Int) ((m.length : Nat) : Int))) (hb : ∀ j, j < m.length % 64 → x[j]? = some (.int .u8 (m.getD (64 * (m.length / 64) + j) 0))) : Dst w g m := ⟨x, ⟨hx, h1⟩, hg, hb⟩
theorem shaN (m : List Int) : (sha m).length = 32 := rfl

set_option maxHeartbeats 4000000 in
set_option maxRecDepth 100000 in
theorem c_New (w : World) :
  Calls Tryd.prog 63 #[] w fun e w' => ∃ B, e = .returned (.pointer (some ⟨B, 0, none⟩)) ∧ w.heap.size ≤ B ∧ Below w.heap.size w w' ∧ Dst w' B [] := by
 refine enter_abs Tryd.func63 rfl 6 rfl (by simp) ?_
 intro a hs hd hargs
 clear hargs
 have hB := bz_refl w
 refine wp_seq ?_
 refine wp_region_list ?_
 show wpList _ _ _ [_] _ _
 refine tail_op rfl (fun K hK => ?_)
 go_simp
 refine hK _ _ ?_
 clear hK K
 refine act_put (d := 0) _ hs hd (by decide) [] trivial rfl ?_
 clear hs hd
 intro a hs hd zl
 refine wp_seq ?_
 refine wp_region_list ?_
 show wpList _ _ _ [_, _] _ _
 refine tail_op rfl (fun K hK => ?_)
 go_simp
 refine hK _ _ (tP hs hd zl ?_)
 clear hK K hs hd zl
 intro a hs hd zl
 obtain ⟨B, hE⟩ : ∃ B, Is w.heap.size B := is_self _
 have BB := Nat.le_trans hB.size (Nat.le_of_eq hE.out)
 generalize hw1 : World.alloc w _ = w1
 have hN : Blk w1 B 122 (dig ⟨0, 0, 0, 0, 0, 0, 0, 0⟩ (zs 64) 0 0) := by rw [← hw1, ← hE.out]; exact Blk.new w _ _
 have hB1 : Below w.heap.size w w1 := by rw [← hw1]; exact bz_alloc (bz_refl w) _
 replace hB := bz_then hB hB1
 obtain ⟨s2, -, -⟩ := zl
 rw [hE.out] at s2
 clear hw1 hB1 hE
 refine tail_op rfl (fun K hK => ?_)
 have q2 := gd s2
 go_simp
 clear q2
 refine hK _ _ ?_
 clear hK K
 refine act_put (d := 1) _ hs hd (by decide) [(2, _)] ⟨s2, trivial⟩ rfl ?_
 clear hs hd s2
 intro a hs hd zl
 refine wp_seq ?_
 refine fl2 [.eq 3 _] 1 hs hd zl
  ⟨(stp rfl fun a u hb hs hl hd K hK => by have s1 := gL hl 0; clear hd; go_simp; exact kE hK hs),
   trivial⟩ ?_
 clear hs hd zl
 intro a w hb hs hd zl hh
 replace zl := lH hh 0 zl
 clear hh
 replace hN := hN.after hb
 replace hB := bz_then hB hb
 clear hb
 show wpList _ _ _ [_] _ _
 refine tail_op rfl (fun K hK => ?_)
 have q3 := gL zl 0
 go_simp
 refine (c_Reset B _ (zs 64) 0 0 _ hN (zs_size 64) (one_zs 64)).mono ?_
 rintro e w2 ⟨rfl, hg2, hD2⟩
 clear q3
 refine hK _ _ (tP hs hd zl ?_)
 clear hK K hs hd zl
 intro a hs hd zl
 replace hB := GB.below2 hB hg2 BB
 clear hg2 hN
 refine wp_seq ?_
 refine fl2 [.eq 5 _] 1 hs hd zl
  ⟨(stp rfl fun a u hb hs hl hd K hK => by have s1 := gL hl 2; clear hd; go_simp; exact kE hK hs),
   trivial⟩ ?_
 clear hs hd zl
 intro a w hb hs hd zl hh
 replace zl := lH hh 0 zl
 clear hh
 replace hD2 := hD2.after hb
 replace hB := bz_then hB hb
 clear hb
 show wpList _ _ _ [_] _ _
 refine tail_op rfl (fun K hK => ?_)
 have q5 := gL zl 0
 go_simp
 clear q5
 refine hK _ _ (tP hs hd zl ?_)
 clear hK K hs hd zl
 intro a hs hd zl
 refine wp_ret ?_
 exact end_tmp rfl hd (vL zl 0) ⟨B, rfl, BB, hB, hD2⟩
set_option maxHeartbeats 4000000 in
set_option maxRecDepth 100000 in
theorem c_DSum (g : Nat) (m : List Int) (w : World) (hD : Dst w g m) (hm8 : Bytes m) (hlen : m.length ≤ 900000000000) (hKt : KTab w 0) (h0 : 0 < w.heap.size) :
  Calls Tryd.prog 78 #[.pointer (some ⟨g, 0, none⟩), .slice none 0 0] w (OutB w (sha m)) := by
 refine enter_abs Tryd.func78 rfl 19 rfl (by simp) ?_
 intro a hs hd hargs
 have s0 := hargs 0 _ rfl
 have s1 := hargs 1 _ rfl
 clear hargs
 have hB := bz_refl w
 obtain ⟨x, ⟨hx, hx1⟩, hg, hb⟩ := hD
 refine wp_seq ?_
 refine wp_region_list ?_
 show wpList _ _ _ [_] _ _
 refine tail_op rfl (fun K hK => ?_)
 go_simp
 refine hK _ _ ?_
 clear hK K
 refine act_put (d := 4) _ hs hd (by decide) [(0, _), (1, _)] ⟨s0, s1, trivial⟩ rfl ?_
 clear hs hd s0 s1
 intro a hs hd zl
 refine wp_seq ?_
 refine fl2 [.eq 7 _, .eq 8 _] 2 hs hd zl
  ⟨(stp rfl fun a u hb hs hl hd K hK => by have s0 := gL hl 1; clear hd; go_simp; exact kE hK hs),
   (stp rfl fun a u hb hs hl hd K hK => by have s7 := gD hd 0; clear hd; go_simp; exact kE hK hs),
   trivial⟩ ?_
 clear hs hd zl
 intro a w hb hs hd zl hh
 replace zl := lH hh 1 zl
 clear hh
 replace hg := hg.after hb
 replace hKt := hKt.after hb
 replace hB := bz_then hB hb
 clear hb
 show wpList _ _ _ [_, _, _] _ _
 refine tail_op rfl (fun K hK => ?_)
 have q8 := gL zl 0
 have s8 := vL zl 0
 refine op_load_row 122 (.tmp 8) rfl g s8 _ _ _ hg rfl rfl (by rw [dig_size, hx]; kernel_rfl) ?_
 clear q8
 refine hK _ _ (tP hs hd zl ?_)
 clear hK K hs hd zl s8
 intro a hs hd zl
 refine tail_op rfl (fun K hK => ?_)
 go_simp
 refine hK _ _ (tP hs hd zl ?_)
 clear hK K hs hd zl
 intro a hs hd zl
 obtain ⟨C, hE⟩ : ∃ B, Is w.heap.size B := is_self _
 have hC0 : C ≠ 0 := by have := hB.size; rw [← hE.out]; omega
 have CB := Nat.le_trans hB.size (Nat.le_of_eq hE.out)
 generalize hw1 : World.alloc w _ = w1
 have hC : Blk w1 C 122 (dig ⟨0, 0, 0, 0, 0, 0, 0, 0⟩ (zs 64) 0 0) := by rw [← hw1, ← hE.out]; exact Blk.new w _ _
 have hB1 : Below w.heap.size w w1 := by rw [← hw1]; exact bz_alloc (bz_refl w) _
 replace hB := bz_then hB hB1
 replace hKt := hKt.after hB1
 obtain ⟨s5, s9, s8, -, -, s1, -⟩ := zl
 rw [hE.out] at s5
 clear hw1 hB1 hE
 refine tail_op rfl (fun K hK => ?_)
 have q5 := gd s5
 have q9 := gd s9
 refine op_store_row 122 (.tmp 5) (.tmp 9) rfl C s5 _ s9 _ _ hC (by rw [dig_size, dig_size, hx, zs_size]) (by rw [dig_size, hx]; kernel_rfl) (one_dig _ _ _ _ hx1) ?_
 clear q5 q9
 refine hK _ _ ?_
 clear hK K
 change wpList _ _ _ _ a _
 have hgs := gb_setRow w1 C (dig (shaBlks m 0 (m.length / 64) sha0) x ((m.length % 64 : Nat) : Int) ((m.length : Nat) : Int))
 replace hB := GB.below2 hB hgs CB
 replace hKt := hKt.gb hgs hC0.symm
 replace hC := Dst.set hx hx1 (hC.setRow (dig (shaBlks m 0 (m.length / 64) sha0) x ((m.length % 64 : Nat) : Int) ((m.length : Nat) : Int))) hb
 clear hgs hg hb
 revert hB hKt hC
 generalize World.setRow _ _ _ = w
 intro hB hKt hC
 clear s8 s9
 refine wp_seq ?_
 refine wp_region_list ?_
 show wpList _ _ _ [_, _, _] _ _
 refine tail_op rfl (fun K hK => ?_)
 have q5 := gd s5
 go_simp
 refine (c_checkSum C m _ hC hm8 hlen hKt hC0).mono ?_
 rintro e w2 ⟨rfl, hg2, c4⟩
 clear q5
 refine hK _ _ ?_
 clear hK K
 refine act_put (d := 10) _ hs hd (by decide) [(1, _), (5, _)] ⟨s1, s5, trivial⟩ rfl ?_
 clear hs hd s1 s5
 intro a hs hd zl
 replace hB := GB.below2 hB hg2 CB
 clear hg2 hC hKt
 refine tail_op rfl (fun K hK => ?_)
 go_simp
 refine hK _ _ (tP hs hd zl ?_)
 clear hK K hs hd zl
 intro a hs hd zl
 obtain ⟨H, hE⟩ : ∃ B, Is w2.heap.size B := is_self _
 have hCH0 : C ≠ H := by have := World.block_lt_of_cell? w2 _ c4; rw [← hE.out]; exact Nat.ne_of_lt this
 have HB := Nat.le_trans hB.size (Nat.le_of_eq hE.out)
 generalize hw1 : World.alloc w2 _ = w1
 have hH : Blk w1 H 126 (zs 32) := by rw [← hw1, ← hE.out]; exact Blk.new w2 _ _
 have hB1 : Below w2.heap.size w2 w1 := by rw [← hw1]; exact bz_alloc (bz_refl w2) _
 replace hB := bz_then hB hB1
 replace c4 := cell_up hB1 c4
 obtain ⟨s6, s10, s1, s5, -⟩ := zl
 rw [hE.out] at s6
 clear hw1 hB1 hE
 refine tail_op rfl (fun K hK => ?_)
 have q6 := gd s6
 have q10 := gd s10
 refine op_store_row 126 (.tmp 6) (.tmp 10) rfl H s6 _ s10 _ _ hH (by rw [zs_size]; rfl) (by kernel_rfl) (one_u8 _) ?_
 clear q6 q10
 refine hK _ _ ?_
 clear hK K
 change wpList _ _ _ _ a _
 have hgs := gb_setRow w1 H ((sha m).map (Value.int .u8)).toArray
 replace hB := GB.below2 hB hgs HB
 replace c4 := (gb_cell hgs (World.block_lt_of_cell? w1 _ c4) (by simpa using hCH0)).trans c4
 replace hH := hH.setRow ((sha m).map (Value.int .u8)).toArray
 clear hgs
 revert hB c4 hH
 generalize World.setRow _ _ _ = w
 intro hB c4 hH
 clear s10
 refine wp_seq ?_
 refine wp_seq ?_
 refine fl2 (F := [(1, _), (5, _), (6, _)]) [.eq 11 _] 1 hs hd ⟨s1, s5, s6, trivial⟩
  ⟨(stp rfl fun a u hb hs hl hd K hK => by have s5 := gL hl 1; clear hd; go_simp; exact kE hK hs),
   trivial⟩ ?_
 clear hs hd s1 s5 s6
 intro a w hb hs hd zl hh
 replace zl := lH hh 0 zl
 clear hh
 replace hH := hH.after hb
 replace c4 := cell_up hb c4
 replace hB := bz_then hB hb
 clear hb
 show wpList _ _ _ [_] _ _
 refine tail_op rfl (fun K hK => ?_)
 have q11 := gL zl 0
 go_simp
 clear q11
 refine hK _ _ (tP hs hd zl ?_)
 clear hK K hs hd zl
 intro a hs hd zl
 clear c4
 refine wp_cond_false (vL zl 0) ?_
 refine wp_skip ?_
 refine wp_seq ?_
 refine fl2 [.eq 16 _, .eq 17 _] 2 hs hd zl
  ⟨(stp rfl fun a u hb hs hl hd K hK => by have s1 := gL hl 2; clear hd; go_simp; exact kE hK hs),
   (stp rfl fun a u hb hs hl hd K hK => by have s6 := gL hl 4; clear hd; go_simp; exact kE hK hs),
   trivial⟩ ?_
 clear hs hd zl
 intro a w hb hs hd zl hh
 replace zl := lH hh 0 zl
 replace zl := lH hh 1 zl
 clear hh
 replace hH := hH.after hb
 replace hB := bz_then hB hb
 clear hb
 show wpList _ _ _ [_, _] _ _
 refine tail_op rfl (fun K hK => ?_)
 have q16 := gL zl 1
 have q17 := gL zl 0
 have s16 := vL zl 1
 have s17 := vL zl 0
 refine op_app_u8 (.tmp 16) (.tmp 17) rfl (l := []) (l2 := sha m) s16 s17 (OwnB.nil _ _) (bs_u8s hH) (by rw [shaN]; decide) hB.size ?_
 intro l1 A1 c1 w1 hl1 _ hown1 hb1 _ _
 clear q16 q17
 refine hK _ _ (tP hs hd zl ?_)
 clear hK K hs hd zl s16 s17
 intro a hs hd zl
 replace hB := hB.trans hb1
 clear hH hb1
 refine tail_op rfl (fun K hK => ?_)
 have q18 := gL zl 0
 go_simp
 clear q18
 refine hK _ _ (tP hs hd zl ?_)
 clear hK K hs hd zl
 intro a hs hd zl
 refine wp_ret ?_
 exact end_tmp rfl hd (vL zl 0) (OutB.mk' hl1.out hown1 hB)
set_option maxHeartbeats 4000000 in
set_option maxRecDepth 100000 in
theorem c_sum256 (A : Option Addr) (c : Nat) (p : List Int) (w : World) (hA : Fm A p.length c) (hp : Bs w A p) (hcap : p.length ≤ c) (hp8 : Bytes p) (hlen : p.length ≤ 900000000000) (hKt : KTab w 0) (h0 : 0 < w.heap.size) :
  Calls Tryd.prog 74 #[.slice A p.length c] w fun e w' => e = .returned (arr32 (sha p)) ∧ Below w.heap.size w w' := by
 refine enter_abs Tryd.func74 rfl 14 rfl (by simp) ?_
 intro a hs hd hargs
 have s0 := hargs 0 _ rfl
 clear hargs
 have hB := bz_refl w
 refine wp_seq ?_
 refine wp_region_list ?_
 show wpList _ _ _ [_] _ _
 refine tail_op rfl (fun K hK => ?_)
 go_simp
 refine hK _ _ ?_
 clear hK K
 refine act_put (d := 2) _ hs hd (by decide) [(0, _)] ⟨s0, trivial⟩ rfl ?_
 clear hs hd s0
 intro a hs hd zl
 obtain ⟨R0, hE⟩ : ∃ B, Is w.heap.size B := is_self _
 have R0B := Nat.le_trans hB.size (Nat.le_of_eq hE.out)
 generalize hw1 : World.alloc w _ = w1
 have hR : Blk w1 R0 126 (zs 32) := by rw [← hw1, ← hE.out]; exact Blk.new w _ _
 have hB1 : Below w.heap.size w w1 := by rw [← hw1]; exact bz_alloc (bz_refl w) _
 replace hB := bz_then hB hB1
 replace hp := hp.after hB1
 replace hKt := hKt.after hB1
 obtain ⟨s2, s0, -⟩ := zl
 rw [hE.out] at s2
 clear hw1 hB1 hE
 refine wp_seq ?_
 refine wp_region_list ?_
 show wpList _ _ _ [_, _] _ _
 refine tail_op rfl (fun K hK => ?_)
 go_simp
 refine (c_New _).mono ?_
 rintro e w2 ⟨B, rfl, hwB, hb2, hD⟩
 refine hK _ _ ?_
 clear hK K
 refine act_put (d := 5) _ hs hd (by decide) [(0, _), (2, _)] ⟨s0, s2, trivial⟩ rfl ?_
 clear hs hd s0 s2
 intro a hs hd zl
 have BB := Nat.le_trans hB.size hwB
 have hBR : B ≠ R0 := by have := hR.lt; omega
 have hfar := hp.far hwB
 replace hB := bz_then hB hb2
 replace hR := hR.after hb2
 replace hp := hp.after hb2
 replace hKt := hKt.after hb2
 clear hb2 hwB
 refine tail_op rfl (fun K hK => ?_)
 have q5 := gL zl 0
 go_simp
 clear q5
 refine hK _ _ (tP hs hd zl ?_)
 clear hK K hs hd zl
 intro a hs hd zl
 refine wp_seq ?_
 refine fl2 [.eq 6 _, .eq 7 _] 2 hs hd zl
  ⟨(stp rfl fun a u hb hs hl hd K hK => by have s3 := gL hl 0; clear hd; go_simp; exact kE hK hs),
   (stp rfl fun a u hb hs hl hd K hK => by have s0 := gL hl 2; clear hd; go_simp; exact kE hK hs),
   trivial⟩ ?_
 clear hs hd zl
 intro a w hb hs hd zl hh
 replace zl := lH hh 0 zl
 replace zl := lH hh 1 zl
 clear hh
 replace hR := hR.after hb
 replace hp := hp.after hb
 replace hKt := hKt.after hb
 replace hD := hD.after hb
 replace hB := bz_then hB hb
 clear hb
 show wpList _ _ _ [_] _ _
 refine tail_op rfl (fun K hK => ?_)
 have q6 := gL zl 1
 have q7 := gL zl 0
 go_simp
 refine (c_Write B c [] p A _ hA.arg hD hp hfar hcap Bytes.nil hp8 (by rw [List.length_nil]; omega) hKt (by omega)).mono ?_
 rintro e w2 ⟨rfl, hg2, hD2⟩
 clear q6 q7
 refine hK _ _ (tP hs hd zl ?_)
 clear hK K hs hd zl
 intro a hs hd zl
 replace hB := GB.below2 hB hg2 BB
 replace hR := hR.gbfar hg2 hBR
 replace hKt := hKt.gb hg2 (by omega)
 replace hD : Dst _ B p := hD2
 clear hg2 hD2 hp
 refine wp_seq ?_
 refine wp_region_list ?_
 show wpList _ _ _ [_] _ _
 refine tail_op rfl (fun K hK => ?_)
 go_simp
 refine hK _ _ (tP hs hd zl ?_)
 clear hK K hs hd zl
 intro a hs hd zl
 obtain ⟨D, hE⟩ : ∃ B, Is w2.heap.size B := is_self _
 have hDR : D ≠ R0 := by have := hR.lt; rw [← hE.out]; omega
 have DB := Nat.le_trans hB.size (Nat.le_of_eq hE.out)
 generalize hw1 : World.alloc w2 _ = w1
 have hDd : Blk w1 D 126 (zs 32) := by rw [← hw1, ← hE.out]; exact Blk.new w2 _ _
 have hB1 : Below w2.heap.size w2 w1 := by rw [← hw1]; exact bz_alloc (bz_refl w2) _
 replace hB := bz_then hB hB1
 replace hR := hR.after hB1
 replace hD := hD.after hB1
 replace hKt := hKt.after hB1
 obtain ⟨s4, -, -, -, s3, -, -, s2, -⟩ := zl
 rw [hE.out] at s4
 clear hw1 hB1 hE
 refine wp_seq ?_
 refine fl2 (F := [(2, _), (3, _), (4, _)]) [.eq 9 _, .eq 10 _, FItem.bs 11 0 (sha p)] 3 hs hd ⟨s2, s3, s4, trivial⟩
  ⟨(stp rfl fun a u hb hs hl hd K hK => by have s4 := gL hl 2; clear hd; go_simp; exact kE hK hs),
   (stp rfl fun a u hb hs hl hd K hK => by have s3 := gL hl 1; clear hd; go_simp; exact kE hK hs),
   (stp rfl fun a u hb hs hl hd K hK => by
    have s10 := gD hd 1
    clear hd
    go_simp
    refine (c_DSum B p _ (hD.after hb) hp8 hlen (hKt.after hb) (by have := (hDd.after hb).lt; omega)).mono ?_
    intro e w2 h
    obtain ⟨v, rfl, hv, hb2⟩ := h.read.at_ (Nat.zero_le _)
    exact hK _ _ hb2 (bs_put hs (by decide) hv)),
   trivial⟩ ?_
 clear hs hd s2 s3 s4
 intro a w hb hs hd zl hh
 replace zl := lH hh 0 zl
 obtain ⟨l1, A1, c1, hl1, s11, -, -, hb1, -⟩ := FItem.bs_holds.1 (hold_get hh 2)
 clear hh
 replace hR := hR.after hb
 replace hDd := hDd.after hb
 replace hB := bz_then hB hb
 clear hb
 show wpList _ _ _ [_] _ _
 refine tail_op rfl (fun K hK => ?_)
 have q9 := gL zl 0
 have q11 := gd s11
 have s9 := vL zl 0
 refine op_copy_32 (.tmp 9) (.tmp 11) rfl s9 s11 hDd (by rw [hl1.out, shaN]) hb1 ?_
 intro w2 hg2 hb2
 rw [hl1.out] at hb2
 clear q9 q11
 refine hK _ _ ?_
 clear hK K
 clear s9
 obtain ⟨s9, s2, -, s4, -⟩ := zl
 refine act_put (d := 12) _ hs hd (by decide) [(2, _), (4, _), (9, _), (11, _)] ⟨s2, s4, s9, s11, trivial⟩ rfl ?_
 clear hs hd s2 s4 s9 s11
 intro a hs hd zl
 replace hB := GB.below2 hB hg2 DB
 replace hR := hR.gbfar hg2 hDR
 replace hDd := hb2
 clear hg2 hb2 hb1 hD hKt
 refine wp_seq ?_
 refine wp_region_list ?_
 show wpList _ _ _ [_, _] _ _
 refine tail_op rfl (fun K hK => ?_)
 have q4 := gL zl 2
 have s4 := vL zl 2
 refine op_load_row 126 (.tmp 4) rfl D s4 _ _ _ hDd rfl rfl (by kernel_rfl) ?_
 clear q4
 refine hK _ _ (tP hs hd zl ?_)
 clear hK K hs hd zl s4
 intro a hs hd zl
 refine tail_op rfl (fun K hK => ?_)
 have q2 := gL zl 2
 have q13 := gL zl 0
 have s2 := vL zl 2
 have s13 := vL zl 0
 refine op_store_row 126 (.tmp 2) (.tmp 13) rfl R0 s2 _ s13 _ _ hR (by rw [zs_size]; rfl) (by kernel_rfl) (one_u8 _) ?_
 clear q2 q13
 refine hK _ _ ?_
 clear hK K
 change wpList _ _ _ _ a _
 clear s13
 refine wp_ret ?_
 exact end_row rfl R0 s2 hd.out 126 _ _ (hR.setRow _) rfl rfl (by kernel_rfl) ⟨rfl, GB.below2 hB (gb_setRow _ R0 _) R0B⟩
set_option maxHeartbeats 4000000 in
set_option maxRecDepth 100000 in
theorem c_mSum (A : Option Addr) (c : Nat) (p : List Int) (w : World) (hA : Fm A p.length c) (hp : Bs w A p) (hcap : p.length ≤ c) (hp8 : Bytes p) (hlen : p.length ≤ 900000000000) (hKt : KTab w 0) (h0 : 0 < w.heap.size) :
  Calls Tryd.prog 70 #[.slice A p.length c] w (ReadB w (sha p)) := by
 refine enter_abs Tryd.func70 rfl 7 rfl (by simp) ?_
 intro a hs hd hargs
 have s0 := hargs 0 _ rfl
 clear hargs
 have hB := bz_refl w
 refine wp_seq ?_
 refine wp_region_list ?_
 show wpList _ _ _ [_] _ _
 refine tail_op rfl (fun K hK => ?_)
 go_simp
 refine hK _ _ ?_
 clear hK K
 refine act_put (d := 2) _ hs hd (by decide) [(0, _)] ⟨s0, trivial⟩ rfl ?_
 clear hs hd s0
 intro a hs hd zl
 refine wp_seq ?_
 refine fl2 [.eq 4 _] 1 hs hd zl
  ⟨(stp rfl fun a u hb hs hl hd K hK => by have s0 := gL hl 1; clear hd; go_simp; exact kE hK hs),
   trivial⟩ ?_
 clear hs hd zl
 intro a w hb hs hd zl hh
 replace zl := lH hh 0 zl
 clear hh
 replace hp := hp.after hb
 replace hKt := hKt.after hb
 replace hB := bz_then hB hb
 clear hb
 show wpList _ _ _ [_, _, _] _ _
 refine tail_op rfl (fun K hK => ?_)
 have q4 := gL zl 0
 go_simp
 refine (c_sum256 A c p _ hA hp hcap hp8 hlen hKt (by have := hB.size; omega)).mono ?_
 rintro e w2 ⟨rfl, hb2⟩
 clear q4
 refine hK _ _ (tP hs hd zl ?_)
 clear hK K hs hd zl
 intro a hs hd zl
 replace hB := bz_then hB hb2
 clear hb2 hp hKt
 refine tail_op rfl (fun K hK => ?_)
 go_simp
 refine hK _ _ (tP hs hd zl ?_)
 clear hK K hs hd zl
 intro a hs hd zl
 obtain ⟨H, hE⟩ : ∃ B, Is w2.heap.size B := is_self _
 have HB := Nat.le_trans hB.size (Nat.le_of_eq hE.out)
 generalize hw1 : World.alloc w2 _ = w1
 have hH : Blk w1 H 126 (zs 32) := by rw [← hw1, ← hE.out]; exact Blk.new w2 _ _
 have hB1 : Below w2.heap.size w2 w1 := by rw [← hw1]; exact bz_alloc (bz_refl w2) _
 replace hB := bz_then hB hB1
 obtain ⟨s3, s5, s4, -, -, -⟩ := zl
 rw [hE.out] at s3
 clear hw1 hB1 hE
 refine tail_op rfl (fun K hK => ?_)
 have q3 := gd s3
 have q5 := gd s5
 refine op_store_row 126 (.tmp 3) (.tmp 5) rfl H s3 _ s5 _ _ hH (by rw [zs_size]; rfl) (by kernel_rfl) (one_u8 _) ?_
 clear q3 q5
 refine hK _ _ ?_
 clear hK K
 change wpList _ _ _ _ a _
 replace hB := GB.below2 hB (gb_setRow w1 H ((sha p).map (Value.int .u8)).toArray) HB
 replace hH := hH.setRow ((sha p).map (Value.int .u8)).toArray
 revert hB hH
 generalize World.setRow _ _ _ = w
 intro hB hH
 clear s4 s5
 refine wp_seq ?_
 refine fl2 (F := [(3, _)]) [.eq 6 _] 1 hs hd ⟨s3, trivial⟩
  ⟨(stp rfl fun a u hb hs hl hd K hK => by have s3 := gL hl 0; clear hd; go_simp; exact kE hK hs),
   trivial⟩ ?_
 clear hs hd s3
 intro a w hb hs hd zl hh
 replace zl := lH hh 0 zl
 clear hh
 replace hH := hH.after hb
 replace hB := bz_then hB hb
 clear hb
 show wpList _ _ _ [_] _ _
 refine tail_op rfl (fun K hK => ?_)
 have q6 := gL zl 0
 go_simp
 clear q6
 refine hK _ _ (tP hs hd zl ?_)
 clear hK K hs hd zl
 intro a hs hd zl
 refine wp_ret ?_
 have s2 := vL zl 0
 exact end_tmp rfl hd s2 (ReadB.mk' (l' := sha p) rfl (.inr ⟨_, _, rfl⟩) (Nat.le_refl _) (bs_u8s hH) (fun k hk => by injection hk with hk; subst hk; exact ⟨HB, hH.lt⟩) hB)

theorem c_leafPrefix (w : World) : Calls Tryd.prog 71 #[] w (ReadB w [0]) := by
 go_enter Tryd.func71, Tryd.ntmps71
 go_wp2
 go_ret
 exact ReadB.mk' (l' := [0]) rfl (.inr ⟨_, _, rfl⟩) (Nat.le_refl _) (bs_one _ _ _) (fun k hk => by injection hk with hk; subst hk; exact ⟨Nat.le_refl _, by simp⟩) (bz_alloc (bz_refl w) _)

theorem c_innerPrefix (w : World) : Calls Tryd.prog 73 #[] w (ReadB w [1]) := by
 go_enter Tryd.func73, Tryd.ntmps73
 go_wp2
 go_ret
 exact ReadB.mk' (l' := [1]) rfl (.inr ⟨_, _, rfl⟩) (Nat.le_refl _) (bs_one _ _ _) (fun k hk => by injection hk with hk; subst hk; exact ⟨Nat.le_refl _, by simp⟩) (bz_alloc (bz_refl w) _)

theorem c_emptyHash (w : World) (hKt : KTab w 0) (h0 : 0 < w.heap.size) : Calls Tryd.prog 65 #[] w (ReadB w (sha [])) := by
 go_enter Tryd.func65, Tryd.ntmps65
 go_wp2_with (go_at_call 70; refine (c_mSum _ 0 [] _ (.inr ⟨_, _, rfl⟩) (Bs.nil _ _) (Nat.le_refl _) Bytes.nil (by decide) (hKt.after (bz_alloc (bz_refl w) _)) (by first | (simp; done) | (simp; omega))).mono ?_; rintro e w1 ⟨l1, A1, c1, hl1, rfl, hf1, hc1, hb1, hn1, hb2⟩)
 go_ret
 exact ReadB.mk' hl1.out hf1 hc1 hb1 (fun k hk => ⟨by have := hn1 k hk; simp at this; omega, (hn1 k hk).2⟩) (bz_then (bz_alloc (bz_refl w) _) hb2)
end Go.Proofs.YtcmllcmcbamlbaaDoor
namespace Go.Proofs.YtcmllcmcbamlbaaDoor
open Go.RowKit
def AnyD (w : World) (g : Nat) : Prop := ∃ s x nx ln, (x.size = 64 ∧ One x) ∧ Blk w g 122 (dig s x nx ln)
theorem KTab.lt {w : World} {g : Nat} (h : KTab w g) : g < w.heap.size := World.block_lt_of_cell? w _ (h 0 (by decide))
theorem Dst.any {w : World} {g : Nat} {m : List Int} (h : Dst w g m) : AnyD w g := by
 obtain ⟨x, h1, h2, h3⟩ := h
 exact ⟨_, x, _, _, h1, h2⟩

theorem meth_Reset (a : Addr) (w : World) : (method 252 112 (.pointer (some a)) "Reset").run Tryd.prog w = .ok (69, .pointer (some a)) w := by kernel_rfl
theorem meth_Write (a : Addr) (w : World) : (method 252 112 (.pointer (some a)) "Write").run Tryd.prog w = .ok (77, .pointer (some a)) w := by kernel_rfl
theorem meth_Sum (a : Addr) (w : World) : (method 252 112 (.pointer (some a)) "Sum").run Tryd.prog w = .ok (78, .pointer (some a)) w := by kernel_rfl
theorem meth_nil (a : Addr) (w : World) : (nilAhead 252 112 (.pointer (some a)) "Write").run Tryd.prog w = .ok (some false) w := by kernel_rfl
theorem one_byte {x : Int} (h0 : 0 ≤ x) (h1 : x < 256) : Bytes [x] := fun y hy => by rw [List.mem_singleton.1 hy]; exact ⟨h0, h1⟩

set_option maxHeartbeats 4000000 in
set_option maxRecDepth 100000 in
theorem c_leafHash (g : Nat) (A : Option Addr) (c : Nat) (p : List Int) (w : World) (hD : AnyD w g) (hA0 : Fm A p.length c) (hp0 : Bs w A p) (hf0 : Far A p (some g)) (hc0 : p.length ≤ c) (h80 : Bytes p) (hlen : p.length ≤ 800000000000) (hKt : KTab w 0) (hg0 : g ≠ 0) :
  Calls Tryd.prog 66 #[.iface 112 (.pointer (some ⟨g, 0, none⟩)), .slice A p.length c] w fun e w' => ∃ v, e = .returned v ∧ BsAt w.heap.size (sha (0 :: p)) v w' ∧ w.grownBy w' (some g) ∧ AnyD w' g := by
 refine enter_abs Tryd.func66 rfl 18 rfl (by simp) ?_
 intro a hs hd hargs
 have s0 := hargs 0 _ rfl
 have s1 := hargs 1 _ rfl
 clear hargs
 have hG := GB.refl w g
 obtain ⟨s, x, nx, ln, ⟨hx, hx1⟩, hg⟩ := hD
 refine wp_seq ?_
 refine wp_region_list ?_
 show wpList _ _ _ [_] _ _
 refine tail_op rfl (fun K hK => ?_)
 go_simp
 refine hK _ _ ?_
 clear hK K
 refine act_put (d := 4) _ hs hd (by decide) [(0, _), (1, _)] ⟨s0, s1, trivial⟩ rfl ?_
 clear hs hd s0 s1
 intro a hs hd zl
 refine wp_seq ?_
 refine fl2 [.eq 5 _] 1 hs hd zl
  ⟨(stp rfl fun a u hb hs hl hd K hK => by have s0 := gL hl 1; clear hd; go_simp; exact kE hK hs),
   trivial⟩ ?_
 clear hs hd zl
 intro a w hb hs hd zl hh
 replace zl := lH hh 0 zl
 clear hh
 replace hG := hG.after hb
 replace hg := hg.after hb
 replace hKt := hKt.after hb
 replace hp0 := hp0.after hb
 clear hb
 show wpList _ _ _ [_] _ _
 refine tail_op rfl (fun K hK => ?_)
 have q5 := gL zl 0
 have mR := meth_Reset
 go_simp
 clear mR
 refine (c_Reset g s x nx ln _ hg hx hx1).mono ?_
 rintro e w2 ⟨rfl, hg2, hD⟩
 clear q5
 refine hK _ _ (tP hs hd zl ?_)
 clear hK K hs hd zl
 intro a hs hd zl
 replace hG := hG.trans hg2
 replace hp0 := hp0.grown hg2 hf0
 replace hKt := hKt.gb hg2 hg0.symm
 have hgw := hD.lt
 clear hg2 hg
 refine wp_seq ?_
 obtain ⟨-, -, -, s0, s1, -⟩ := zl
 refine fl2 (F := [(0, _), (1, _)]) [.eq 7 _, FItem.bs 8 w2.heap.size [0], .eq 9 _, .eq 10 _, .eq 11 _] 5 hs hd ⟨s0, s1, trivial⟩
  ⟨(stp rfl fun a u hb hs hl hd K hK => by have s0 := gL hl 0; clear hd; go_simp; exact kE hK hs),
   (stp rfl fun a u hb hs hl hd K hK => by
    clear hd
    go_simp
    refine (c_leafPrefix _).mono ?_
    intro e w3 h
    obtain ⟨v, rfl, hv, hb2⟩ := h.at_ hb.size
    exact hK _ _ hb2 (bs_put hs (by decide) hv)),
   (stp rfl fun a u hb hs hl hd K hK => by have s7 := gD hd 0; clear hd; go_simp; exact kE hK hs),
   (stp rfl fun a u hb hs hl hd K hK => by
    have s9 := gD hd 2
    clear hd
    have mN := meth_nil
    go_simp; exact kE hK hs),
   (stp rfl fun a u hb hs hl hd K hK => by have s7 := gD hd 0; clear hd; go_simp; exact kE hK hs),
   trivial⟩ ?_
 clear hs hd s0 s1
 intro a w hb hs hd zl hh
 replace zl := lH hh 4 zl
 obtain ⟨l1, A1, c1, hl1, s8, f1, k1, hb1, n1⟩ := FItem.bs_holds.1 (hold_get hh 1)
 clear hh
 replace hG := hG.after hb
 replace hD := hD.after hb
 replace hKt := hKt.after hb
 replace hp0 := hp0.after hb
 clear hb
 show wpList _ _ _ [_] _ _
 refine tail_op rfl (fun K hK => ?_)
 have q8 := gd s8
 have q11 := gL zl 0
 have mW := meth_Write
 go_simp
 clear mW
 refine (c_Write g c1 [] l1 A1 _ f1.arg hD hb1 (fun hx e => by have := (n1 g e).1; omega) k1 Bytes.nil (by rw [hl1.out]; intro y hy; rw [List.mem_singleton.1 hy]; exact ⟨by decide, by decide⟩) (by rw [hl1.out]; decide) hKt hg0).mono ?_
 rintro e w3 ⟨rfl, hg2, hD2⟩
 clear q8 q11
 refine hK _ _ ?_
 clear hK K
 obtain ⟨s11, s0, s1, -⟩ := zl
 refine act_put (d := 12) _ hs hd (by decide) [(0, _), (1, _), (8, _), (11, _)] ⟨s0, s1, s8, s11, trivial⟩ rfl ?_
 clear hs hd s0 s1 s8 s11
 intro a hs hd zl
 replace hG := hG.trans hg2
 replace hp0 := hp0.grown hg2 hf0
 replace hKt := hKt.gb hg2 hg0.symm
 rw [hl1.out] at hD2
 replace hD : Dst _ g [0] := hD2
 clear hg2 hD2 hb1
 refine wp_seq ?_
 refine fl2 [.eq 13 _, .eq 14 _] 2 hs hd zl
  ⟨(stp rfl fun a u hb hs hl hd K hK => by have s0 := gL hl 1; clear hd; go_simp; exact kE hK hs),
   (stp rfl fun a u hb hs hl hd K hK => by have s1 := gL hl 2; clear hd; go_simp; exact kE hK hs),
   trivial⟩ ?_
 clear hs hd zl
 intro a w hb hs hd zl hh
 replace zl := lH hh 0 zl
 replace zl := lH hh 1 zl
 clear hh
 replace hG := hG.after hb
 replace hD := hD.after hb
 replace hKt := hKt.after hb
 replace hp0 := hp0.after hb
 clear hb
 show wpList _ _ _ [_] _ _
 refine tail_op rfl (fun K hK => ?_)
 have q13 := gL zl 1
 have q14 := gL zl 0
 have mW := meth_Write
 go_simp
 clear mW
 refine (c_Write g c ([0]) p A _ hA0.arg hD hp0 hf0 hc0 (one_byte (by decide) (by decide)) h80 (by simp only [List.length_append, List.length_cons, List.length_nil]; omega) hKt hg0).mono ?_
 rintro e w3 ⟨rfl, hg2, hD2⟩
 clear q13 q14
 refine hK _ _ (tP hs hd zl ?_)
 clear hK K hs hd zl
 intro a hs hd zl
 replace hG := hG.trans hg2
 replace hp0 := hp0.grown hg2 hf0
 replace hKt := hKt.gb hg2 hg0.symm
 replace hD := hD2
 clear hg2
 rw [show [0] ++ p = 0 :: p from rfl] at hD
 refine wp_seq ?_
 refine fl2 [.eq 16 _] 1 hs hd zl
  ⟨(stp rfl fun a u hb hs hl hd K hK => by have s0 := gL hl 4; clear hd; go_simp; exact kE hK hs),
   trivial⟩ ?_
 clear hs hd zl
 intro a w hb hs hd zl hh
 replace zl := lH hh 0 zl
 clear hh
 replace hG := hG.after hb
 replace hD := hD.after hb
 replace hKt := hKt.after hb
 replace hp0 := hp0.after hb
 clear hb
 show wpList _ _ _ [_, _] _ _
 refine tail_op rfl (fun K hK => ?_)
 have q16 := gL zl 0
 have mS := meth_Sum
 go_simp
 clear mS
 refine (c_DSum g _ _ hD ((one_byte (x := 0) (by decide) (by decide)).append h80) (by simp only [List.length_append, List.length_cons]; omega) hKt hKt.lt).mono ?_
 intro e w3 h
 obtain ⟨v, rfl, hv, hb2⟩ := h.read.at_ hG.size
 clear q16
 refine hK _ _ (tP hs hd zl ?_)
 clear hK K hs hd zl
 intro a hs hd zl
 replace hG := hG.after hb2
 replace hD := hD.after hb2
 clear hb2
 refine tail_op rfl (fun K hK => ?_)
 have q17 := gL zl 0
 go_simp
 clear q17
 refine hK _ _ (tP hs hd zl ?_)
 clear hK K hs hd zl
 intro a hs hd zl
 refine wp_ret ?_
 exact end_tmp rfl hd (vL zl 0) ⟨v, rfl, hv, hG, hD.any⟩
set_option maxHeartbeats 4000000 in
set_option maxRecDepth 100000 in
theorem c_innerHash (g : Nat) (A : Option Addr) (c : Nat) (p : List Int) (A' : Option Addr) (c' : Nat) (p' : List Int) (w : World) (hD : AnyD w g) (hA0 : Fm A p.length c) (hp0 : Bs w A p) (hf0 : Far A p (some g)) (hc0 : p.length ≤ c) (h80 : Bytes p) (hA1 : Fm A' p'.length c') (hp1 : Bs w A' p') (hf1 : Far A' p' (some g)) (hc1 : p'.length ≤ c') (h81 : Bytes p') (hlen : p.length + p'.length ≤ 800000000000) (hKt : KTab w 0) (hg0 : g ≠ 0) :
  Calls Tryd.prog 68 #[.iface 112 (.pointer (some ⟨g, 0, none⟩)), .slice A p.length c, .slice A' p'.length c'] w fun e w' => ∃ v, e = .returned v ∧ BsAt w.heap.size (sha (1 :: (p ++ p'))) v w' ∧ w.grownBy w' (some g) ∧ AnyD w' g := by
 refine enter_abs Tryd.func68 rfl 23 rfl (by simp) ?_
 intro a hs hd hargs
 have s0 := hargs 0 _ rfl
 have s1 := hargs 1 _ rfl
 have s2 := hargs 2 _ rfl
 clear hargs
 have hG := GB.refl w g
 obtain ⟨s, x, nx, ln, ⟨hx, hx1⟩, hg⟩ := hD
 refine wp_seq ?_
 refine wp_region_list ?_
 show wpList _ _ _ [_] _ _
 refine tail_op rfl (fun K hK => ?_)
 go_simp
 refine hK _ _ ?_
 clear hK K
 refine act_put (d := 6) _ hs hd (by decide) [(0, _), (1, _), (2, _)] ⟨s0, s1, s2, trivial⟩ rfl ?_
 clear hs hd s0 s1 s2
 intro a hs hd zl
 refine wp_seq ?_
 refine fl2 [.eq 7 _] 1 hs hd zl
  ⟨(stp rfl fun a u hb hs hl hd K hK => by have s0 := gL hl 1; clear hd; go_simp; exact kE hK hs),
   trivial⟩ ?_
 clear hs hd zl
 intro a w hb hs hd zl hh
 replace zl := lH hh 0 zl
 clear hh
 replace hG := hG.after hb
 replace hg := hg.after hb
 replace hKt := hKt.after hb
 replace hp0 := hp0.after hb
 replace hp1 := hp1.after hb
 clear hb
 show wpList _ _ _ [_] _ _
 refine tail_op rfl (fun K hK => ?_)
 have q7 := gL zl 0
 have mR := meth_Reset
 go_simp
 clear mR
 refine (c_Reset g s x nx ln _ hg hx hx1).mono ?_
 rintro e w2 ⟨rfl, hg2, hD⟩
 clear q7
 refine hK _ _ (tP hs hd zl ?_)
 clear hK K hs hd zl
 intro a hs hd zl
 replace hG := hG.trans hg2
 replace hp0 := hp0.grown hg2 hf0
 replace hp1 := hp1.grown hg2 hf1
 replace hKt := hKt.gb hg2 hg0.symm
 have hgw := hD.lt
 clear hg2 hg
 refine wp_seq ?_
 obtain ⟨-, -, -, s0, s1, s2, -⟩ := zl
 refine fl2 (F := [(0, _), (1, _), (2, _)]) [.eq 9 _, FItem.bs 10 w2.heap.size [1], .eq 11 _, .eq 12 _, .eq 13 _] 5 hs hd ⟨s0, s1, s2, trivial⟩
  ⟨(stp rfl fun a u hb hs hl hd K hK => by have s0 := gL hl 0; clear hd; go_simp; exact kE hK hs),
   (stp rfl fun a u hb hs hl hd K hK => by
    clear hd
    go_simp
    refine (c_innerPrefix _).mono ?_
    intro e w3 h
    obtain ⟨v, rfl, hv, hb2⟩ := h.at_ hb.size
    exact hK _ _ hb2 (bs_put hs (by decide) hv)),
   (stp rfl fun a u hb hs hl hd K hK => by have s9 := gD hd 0; clear hd; go_simp; exact kE hK hs),
   (stp rfl fun a u hb hs hl hd K hK => by
    have s11 := gD hd 2
    clear hd
    have mN := meth_nil
    go_simp; exact kE hK hs),
   (stp rfl fun a u hb hs hl hd K hK => by have s9 := gD hd 0; clear hd; go_simp; exact kE hK hs),
   trivial⟩ ?_
 clear hs hd s0 s1 s2
 intro a w hb hs hd zl hh
 replace zl := lH hh 4 zl
 obtain ⟨l1, A1, c1, hl1, s10, f1, k1, hb1, n1⟩ := FItem.bs_holds.1 (hold_get hh 1)
 clear hh
 replace hG := hG.after hb
 replace hD := hD.after hb
 replace hKt := hKt.after hb
 replace hp0 := hp0.after hb
 replace hp1 := hp1.after hb
 clear hb
 show wpList _ _ _ [_] _ _
 refine tail_op rfl (fun K hK => ?_)
 have q10 := gd s10
 have q13 := gL zl 0
 have mW := meth_Write
 go_simp
 clear mW
 refine (c_Write g c1 [] l1 A1 _ f1.arg hD hb1 (fun hx e => by have := (n1 g e).1; omega) k1 Bytes.nil (by rw [hl1.out]; intro y hy; rw [List.mem_singleton.1 hy]; exact ⟨by decide, by decide⟩) (by rw [hl1.out]; decide) hKt hg0).mono ?_
 rintro e w3 ⟨rfl, hg2, hD2⟩
 clear q10 q13
 refine hK _ _ ?_
 clear hK K
 obtain ⟨s13, s0, s1, s2, -⟩ := zl
 refine act_put (d := 14) _ hs hd (by decide) [(0, _), (1, _), (2, _), (10, _), (13, _)] ⟨s0, s1, s2, s10, s13, trivial⟩ rfl ?_
 clear hs hd s0 s1 s2 s10 s13
 intro a hs hd zl
 replace hG := hG.trans hg2
 replace hp0 := hp0.grown hg2 hf0
 replace hp1 := hp1.grown hg2 hf1
 replace hKt := hKt.gb hg2 hg0.symm
 rw [hl1.out] at hD2
 replace hD : Dst _ g [1] := hD2
 clear hg2 hD2 hb1
 refine wp_seq ?_
 refine fl2 [.eq 15 _, .eq 16 _] 2 hs hd zl
  ⟨(stp rfl fun a u hb hs hl hd K hK => by have s0 := gL hl 1; clear hd; go_simp; exact kE hK hs),
   (stp rfl fun a u hb hs hl hd K hK => by have s1 := gL hl 2; clear hd; go_simp; exact kE hK hs),
   trivial⟩ ?_
 clear hs hd zl
 intro a w hb hs hd zl hh
 replace zl := lH hh 0 zl
 replace zl := lH hh 1 zl
 clear hh
 replace hG := hG.after hb
 replace hD := hD.after hb
 replace hKt := hKt.after hb
 replace hp0 := hp0.after hb
 replace hp1 := hp1.after hb
 clear hb
 show wpList _ _ _ [_] _ _
 refine tail_op rfl (fun K hK => ?_)
 have q15 := gL zl 1
 have q16 := gL zl 0
 have mW := meth_Write
 go_simp
 clear mW
 refine (c_Write g c ([1]) p A _ hA0.arg hD hp0 hf0 hc0 (one_byte (by decide) (by decide)) h80 (by simp only [List.length_append, List.length_cons, List.length_nil]; omega) hKt hg0).mono ?_
 rintro e w3 ⟨rfl, hg2, hD2⟩
 clear q15 q16
 refine hK _ _ (tP hs hd zl ?_)
 clear hK K hs hd zl
 intro a hs hd zl
 replace hG := hG.trans hg2
 replace hp0 := hp0.grown hg2 hf0
 replace hp1 := hp1.grown hg2 hf1
 replace hKt := hKt.gb hg2 hg0.symm
 replace hD := hD2
 clear hg2
 refine wp_seq ?_
 refine fl2 [.eq 18 _, .eq 19 _] 2 hs hd zl
  ⟨(stp rfl fun a u hb hs hl hd K hK => by have s0 := gL hl 4; clear hd; go_simp; exact kE hK hs),
   (stp rfl fun a u hb hs hl hd K hK => by have s2 := gL hl 6; clear hd; go_simp; exact kE hK hs),
   trivial⟩ ?_
 clear hs hd zl
 intro a w hb hs hd zl hh
 replace zl := lH hh 0 zl
 replace zl := lH hh 1 zl
 clear hh
 replace hG := hG.after hb
 replace hD := hD.after hb
 replace hKt := hKt.after hb
 replace hp0 := hp0.after hb
 replace hp1 := hp1.after hb
 clear hb
 show wpList _ _ _ [_] _ _
 refine tail_op rfl (fun K hK => ?_)
 have q18 := gL zl 1
 have q19 := gL zl 0
 have mW := meth_Write
 go_simp
 clear mW
 refine (c_Write g c' ([1] ++ p) p' A' _ hA1.arg hD hp1 hf1 hc1 ((one_byte (by decide) (by decide)).append h80) h81 (by simp only [List.length_append, List.length_cons, List.length_nil]; omega) hKt hg0).mono ?_
 rintro e w3 ⟨rfl, hg2, hD2⟩
 clear q18 q19
 refine hK _ _ (tP hs hd zl ?_)
 clear hK K hs hd zl
 intro a hs hd zl
 replace hG := hG.trans hg2
 replace hp0 := hp0.grown hg2 hf0
 replace hp1 := hp1.grown hg2 hf1
 replace hKt := hKt.gb hg2 hg0.symm
 replace hD := hD2
 clear hg2
 rw [show [1] ++ p ++ p' = 1 :: (p ++ p') from rfl] at hD
 refine wp_seq ?_
 refine fl2 [.eq 21 _] 1 hs hd zl
  ⟨(stp rfl fun a u hb hs hl hd K hK => by have s0 := gL hl 7; clear hd; go_simp; exact kE hK hs),
   trivial⟩ ?_
 clear hs hd zl
 intro a w hb hs hd zl hh
 replace zl := lH hh 0 zl
 clear hh
 replace hG := hG.after hb
 replace hD := hD.after hb
 replace hKt := hKt.after hb
 replace hp0 := hp0.after hb
 replace hp1 := hp1.after hb
 clear hb
 show wpList _ _ _ [_, _] _ _
 refine tail_op rfl (fun K hK => ?_)
 have q21 := gL zl 0
 have mS := meth_Sum
 go_simp
 clear mS
 refine (c_DSum g _ _ hD ((one_byte (x := 1) (by decide) (by decide)).append (h80.append h81)) (by simp only [List.length_append, List.length_cons]; omega) hKt hKt.lt).mono ?_
 intro e w3 h
 obtain ⟨v, rfl, hv, hb2⟩ := h.read.at_ hG.size
 clear q21
 refine hK _ _ (tP hs hd zl ?_)
 clear hK K hs hd zl
 intro a hs hd zl
 replace hG := hG.after hb2
 replace hD := hD.after hb2
 clear hb2
 refine tail_op rfl (fun K hK => ?_)
 have q22 := gL zl 0
 go_simp
 clear q22
 refine hK _ _ (tP hs hd zl ?_)
 clear hK K hs hd zl
 intro a hs hd zl
 refine wp_ret ?_
 exact end_tmp rfl hd (vL zl 0) ⟨v, rfl, hv, hG, hD.any⟩
end Go.Proofs.YtcmllcmcbamlbaaDoor
namespace Go.Proofs.YtcmllcmcbamlbaaDoor
open Go.RowKit
/-- The greatest power of two below n (n from 2 to 32). -/
def splitN (n : Nat) : Nat := if n ≤ 2 then 1 else if n ≤ 4 then 2 else if n ≤ 8 then 4 else if n ≤ 16 then 8 else 16
theorem splitN_lt {n : Nat} (h : 2 ≤ n) (h16 : n ≤ 32) : 1 ≤ splitN n ∧ splitN n < n := by
 unfold splitN
 repeat' split
 all_goals omega
set_option maxRecDepth 100000

theorem c_len2 (w : World) : Calls Tryd.prog 72 #[.int .u64 2] w fun e w' => e = .returned (.int .i64 2) ∧ w' = w := by
 go_enter Tryd.func72, Tryd.ntmps72
 go_wp2
 exact end_tmp rfl ⟨rfl⟩ rfl ⟨by kernel_rfl, rfl⟩
theorem c_gsp2 (w : World) : Calls Tryd.prog 67 #[.int .i64 2] w fun e w' => e = .returned (.int .i64 1) ∧ w' = w := by
 go_enter Tryd.func67, Tryd.ntmps67
 go_wp2_with (go_at_call 72; refine (c_len2 _).mono ?_; rintro e w' ⟨rfl, rfl⟩)
 exact end_tmp rfl ⟨rfl⟩ rfl ⟨by kernel_rfl, rfl⟩
theorem c_spl2 (w : World) : Calls Tryd.prog 35 #[.int .i64 2] w fun e w' => e = .returned (.int .i64 1) ∧ w' = w := by
 go_enter Tryd.func35, Tryd.ntmps35
 go_wp2
 go_rounds 6
 exact end_tmp rfl ⟨rfl⟩ rfl ⟨by kernel_rfl, rfl⟩
theorem c_len3 (w : World) : Calls Tryd.prog 72 #[.int .u64 3] w fun e w' => e = .returned (.int .i64 2) ∧ w' = w := by
 go_enter Tryd.func72, Tryd.ntmps72
 go_wp2
 exact end_tmp rfl ⟨rfl⟩ rfl ⟨by kernel_rfl, rfl⟩
theorem c_gsp3 (w : World) : Calls Tryd.prog 67 #[.int .i64 3] w fun e w' => e = .returned (.int .i64 2) ∧ w' = w := by
 go_enter Tryd.func67, Tryd.ntmps67
 go_wp2_with (go_at_call 72; refine (c_len3 _).mono ?_; rintro e w' ⟨rfl, rfl⟩)
 exact end_tmp rfl ⟨rfl⟩ rfl ⟨by kernel_rfl, rfl⟩
theorem c_spl3 (w : World) : Calls Tryd.prog 35 #[.int .i64 3] w fun e w' => e = .returned (.int .i64 2) ∧ w' = w := by
 go_enter Tryd.func35, Tryd.ntmps35
 go_wp2
 go_rounds 6
 exact end_tmp rfl ⟨rfl⟩ rfl ⟨by kernel_rfl, rfl⟩
theorem c_len4 (w : World) : Calls Tryd.prog 72 #[.int .u64 4] w fun e w' => e = .returned (.int .i64 3) ∧ w' = w := by
 go_enter Tryd.func72, Tryd.ntmps72
 go_wp2
 exact end_tmp rfl ⟨rfl⟩ rfl ⟨by kernel_rfl, rfl⟩
theorem c_gsp4 (w : World) : Calls Tryd.prog 67 #[.int .i64 4] w fun e w' => e = .returned (.int .i64 2) ∧ w' = w := by
 go_enter Tryd.func67, Tryd.ntmps67
 go_wp2_with (go_at_call 72; refine (c_len4 _).mono ?_; rintro e w' ⟨rfl, rfl⟩)
 exact end_tmp rfl ⟨rfl⟩ rfl ⟨by kernel_rfl, rfl⟩
theorem c_spl4 (w : World) : Calls Tryd.prog 35 #[.int .i64 4] w fun e w' => e = .returned (.int .i64 2) ∧ w' = w := by
 go_enter Tryd.func35, Tryd.ntmps35
 go_wp2
 go_rounds 6
 exact end_tmp rfl ⟨rfl⟩ rfl ⟨by kernel_rfl, rfl⟩
theorem c_len5 (w : World) : Calls Tryd.prog 72 #[.int .u64 5] w fun e w' => e = .returned (.int .i64 3) ∧ w' = w := by
 go_enter Tryd.func72, Tryd.ntmps72
 go_wp2
 exact end_tmp rfl ⟨rfl⟩ rfl ⟨by kernel_rfl, rfl⟩
theorem c_gsp5 (w : World) : Calls Tryd.prog 67 #[.int .i64 5] w fun e w' => e = .returned (.int .i64 4) ∧ w' = w := by
 go_enter Tryd.func67, Tryd.ntmps67
 go_wp2_with (go_at_call 72; refine (c_len5 _).mono ?_; rintro e w' ⟨rfl, rfl⟩)
 exact end_tmp rfl ⟨rfl⟩ rfl ⟨by kernel_rfl, rfl⟩
theorem c_spl5 (w : World) : Calls Tryd.prog 35 #[.int .i64 5] w fun e w' => e = .returned (.int .i64 4) ∧ w' = w := by
 go_enter Tryd.func35, Tryd.ntmps35
 go_wp2
 go_rounds 6
 exact end_tmp rfl ⟨rfl⟩ rfl ⟨by kernel_rfl, rfl⟩
theorem c_len6 (w : World) : Calls Tryd.prog 72 #[.int .u64 6] w fun e w' => e = .returned (.int .i64 3) ∧ w' = w := by
 go_enter Tryd.func72, Tryd.ntmps72
 go_wp2
 exact end_tmp rfl ⟨rfl⟩ rfl ⟨by kernel_rfl, rfl⟩
theorem c_gsp6 (w : World) : Calls Tryd.prog 67 #[.int .i64 6] w fun e w' => e = .returned (.int .i64 4) ∧ w' = w := by
 go_enter Tryd.func67, Tryd.ntmps67
 go_wp2_with (go_at_call 72; refine (c_len6 _).mono ?_; rintro e w' ⟨rfl, rfl⟩)
 exact end_tmp rfl ⟨rfl⟩ rfl ⟨by kernel_rfl, rfl⟩
theorem c_spl6 (w : World) : Calls Tryd.prog 35 #[.int .i64 6] w fun e w' => e = .returned (.int .i64 4) ∧ w' = w := by
 go_enter Tryd.func35, Tryd.ntmps35
 go_wp2
 go_rounds 6
 exact end_tmp rfl ⟨rfl⟩ rfl ⟨by kernel_rfl, rfl⟩
theorem c_len7 (w : World) : Calls Tryd.prog 72 #[.int .u64 7] w fun e w' => e = .returned (.int .i64 3) ∧ w' = w := by
 go_enter Tryd.func72, Tryd.ntmps72
 go_wp2
 exact end_tmp rfl ⟨rfl⟩ rfl ⟨by kernel_rfl, rfl⟩
theorem c_gsp7 (w : World) : Calls Tryd.prog 67 #[.int .i64 7] w fun e w' => e = .returned (.int .i64 4) ∧ w' = w := by
 go_enter Tryd.func67, Tryd.ntmps67
 go_wp2_with (go_at_call 72; refine (c_len7 _).mono ?_; rintro e w' ⟨rfl, rfl⟩)
 exact end_tmp rfl ⟨rfl⟩ rfl ⟨by kernel_rfl, rfl⟩
theorem c_spl7 (w : World) : Calls Tryd.prog 35 #[.int .i64 7] w fun e w' => e = .returned (.int .i64 4) ∧ w' = w := by
 go_enter Tryd.func35, Tryd.ntmps35
 go_wp2
 go_rounds 6
 exact end_tmp rfl ⟨rfl⟩ rfl ⟨by kernel_rfl, rfl⟩
theorem c_len8 (w : World) : Calls Tryd.prog 72 #[.int .u64 8] w fun e w' => e = .returned (.int .i64 4) ∧ w' = w := by
 go_enter Tryd.func72, Tryd.ntmps72
 go_wp2
 exact end_tmp rfl ⟨rfl⟩ rfl ⟨by kernel_rfl, rfl⟩
theorem c_gsp8 (w : World) : Calls Tryd.prog 67 #[.int .i64 8] w fun e w' => e = .returned (.int .i64 4) ∧ w' = w := by
 go_enter Tryd.func67, Tryd.ntmps67
 go_wp2_with (go_at_call 72; refine (c_len8 _).mono ?_; rintro e w' ⟨rfl, rfl⟩)
 exact end_tmp rfl ⟨rfl⟩ rfl ⟨by kernel_rfl, rfl⟩
theorem c_spl8 (w : World) : Calls Tryd.prog 35 #[.int .i64 8] w fun e w' => e = .returned (.int .i64 4) ∧ w' = w := by
 go_enter Tryd.func35, Tryd.ntmps35
 go_wp2
 go_rounds 6
 exact end_tmp rfl ⟨rfl⟩ rfl ⟨by kernel_rfl, rfl⟩
theorem c_len9 (w : World) : Calls Tryd.prog 72 #[.int .u64 9] w fun e w' => e = .returned (.int .i64 4) ∧ w' = w := by
 go_enter Tryd.func72, Tryd.ntmps72
 go_wp2
 exact end_tmp rfl ⟨rfl⟩ rfl ⟨by kernel_rfl, rfl⟩
theorem c_gsp9 (w : World) : Calls Tryd.prog 67 #[.int .i64 9] w fun e w' => e = .returned (.int .i64 8) ∧ w' = w := by
 go_enter Tryd.func67, Tryd.ntmps67
 go_wp2_with (go_at_call 72; refine (c_len9 _).mono ?_; rintro e w' ⟨rfl, rfl⟩)
 exact end_tmp rfl ⟨rfl⟩ rfl ⟨by kernel_rfl, rfl⟩
theorem c_spl9 (w : World) : Calls Tryd.prog 35 #[.int .i64 9] w fun e w' => e = .returned (.int .i64 8) ∧ w' = w := by
 go_enter Tryd.func35, Tryd.ntmps35
 go_wp2
 go_rounds 6
 exact end_tmp rfl ⟨rfl⟩ rfl ⟨by kernel_rfl, rfl⟩
theorem c_len10 (w : World) : Calls Tryd.prog 72 #[.int .u64 10] w fun e w' => e = .returned (.int .i64 4) ∧ w' = w := by
 go_enter Tryd.func72, Tryd.ntmps72
 go_wp2
 exact end_tmp rfl ⟨rfl⟩ rfl ⟨by kernel_rfl, rfl⟩
theorem c_gsp10 (w : World) : Calls Tryd.prog 67 #[.int .i64 10] w fun e w' => e = .returned (.int .i64 8) ∧ w' = w := by
 go_enter Tryd.func67, Tryd.ntmps67
 go_wp2_with (go_at_call 72; refine (c_len10 _).mono ?_; rintro e w' ⟨rfl, rfl⟩)
 exact end_tmp rfl ⟨rfl⟩ rfl ⟨by kernel_rfl, rfl⟩
theorem c_spl10 (w : World) : Calls Tryd.prog 35 #[.int .i64 10] w fun e w' => e = .returned (.int .i64 8) ∧ w' = w := by
 go_enter Tryd.func35, Tryd.ntmps35
 go_wp2
 go_rounds 6
 exact end_tmp rfl ⟨rfl⟩ rfl ⟨by kernel_rfl, rfl⟩
theorem c_len11 (w : World) : Calls Tryd.prog 72 #[.int .u64 11] w fun e w' => e = .returned (.int .i64 4) ∧ w' = w := by
 go_enter Tryd.func72, Tryd.ntmps72
 go_wp2
 exact end_tmp rfl ⟨rfl⟩ rfl ⟨by kernel_rfl, rfl⟩
theorem c_gsp11 (w : World) : Calls Tryd.prog 67 #[.int .i64 11] w fun e w' => e = .returned (.int .i64 8) ∧ w' = w := by
 go_enter Tryd.func67, Tryd.ntmps67
 go_wp2_with (go_at_call 72; refine (c_len11 _).mono ?_; rintro e w' ⟨rfl, rfl⟩)
 exact end_tmp rfl ⟨rfl⟩ rfl ⟨by kernel_rfl, rfl⟩
theorem c_spl11 (w : World) : Calls Tryd.prog 35 #[.int .i64 11] w fun e w' => e = .returned (.int .i64 8) ∧ w' = w := by
 go_enter Tryd.func35, Tryd.ntmps35
 go_wp2
 go_rounds 6
 exact end_tmp rfl ⟨rfl⟩ rfl ⟨by kernel_rfl, rfl⟩
theorem c_len12 (w : World) : Calls Tryd.prog 72 #[.int .u64 12] w fun e w' => e = .returned (.int .i64 4) ∧ w' = w := by
 go_enter Tryd.func72, Tryd.ntmps72
 go_wp2
 exact end_tmp rfl ⟨rfl⟩ rfl ⟨by kernel_rfl, rfl⟩
theorem c_gsp12 (w : World) : Calls Tryd.prog 67 #[.int .i64 12] w fun e w' => e = .returned (.int .i64 8) ∧ w' = w := by
 go_enter Tryd.func67, Tryd.ntmps67
 go_wp2_with (go_at_call 72; refine (c_len12 _).mono ?_; rintro e w' ⟨rfl, rfl⟩)
 exact end_tmp rfl ⟨rfl⟩ rfl ⟨by kernel_rfl, rfl⟩
theorem c_spl12 (w : World) : Calls Tryd.prog 35 #[.int .i64 12] w fun e w' => e = .returned (.int .i64 8) ∧ w' = w := by
 go_enter Tryd.func35, Tryd.ntmps35
 go_wp2
 go_rounds 6
 exact end_tmp rfl ⟨rfl⟩ rfl ⟨by kernel_rfl, rfl⟩
theorem c_len13 (w : World) : Calls Tryd.prog 72 #[.int .u64 13] w fun e w' => e = .returned (.int .i64 4) ∧ w' = w := by
 go_enter Tryd.func72, Tryd.ntmps72
 go_wp2
 exact end_tmp rfl ⟨rfl⟩ rfl ⟨by kernel_rfl, rfl⟩
theorem c_gsp13 (w : World) : Calls Tryd.prog 67 #[.int .i64 13] w fun e w' => e = .returned (.int .i64 8) ∧ w' = w := by
 go_enter Tryd.func67, Tryd.ntmps67
 go_wp2_with (go_at_call 72; refine (c_len13 _).mono ?_; rintro e w' ⟨rfl, rfl⟩)
 exact end_tmp rfl ⟨rfl⟩ rfl ⟨by kernel_rfl, rfl⟩
theorem c_spl13 (w : World) : Calls Tryd.prog 35 #[.int .i64 13] w fun e w' => e = .returned (.int .i64 8) ∧ w' = w := by
 go_enter Tryd.func35, Tryd.ntmps35
 go_wp2
 go_rounds 6
 exact end_tmp rfl ⟨rfl⟩ rfl ⟨by kernel_rfl, rfl⟩
theorem c_len14 (w : World) : Calls Tryd.prog 72 #[.int .u64 14] w fun e w' => e = .returned (.int .i64 4) ∧ w' = w := by
 go_enter Tryd.func72, Tryd.ntmps72
 go_wp2
 exact end_tmp rfl ⟨rfl⟩ rfl ⟨by kernel_rfl, rfl⟩
theorem c_gsp14 (w : World) : Calls Tryd.prog 67 #[.int .i64 14] w fun e w' => e = .returned (.int .i64 8) ∧ w' = w := by
 go_enter Tryd.func67, Tryd.ntmps67
 go_wp2_with (go_at_call 72; refine (c_len14 _).mono ?_; rintro e w' ⟨rfl, rfl⟩)
 exact end_tmp rfl ⟨rfl⟩ rfl ⟨by kernel_rfl, rfl⟩
theorem c_spl14 (w : World) : Calls Tryd.prog 35 #[.int .i64 14] w fun e w' => e = .returned (.int .i64 8) ∧ w' = w := by
 go_enter Tryd.func35, Tryd.ntmps35
 go_wp2
 go_rounds 6
 exact end_tmp rfl ⟨rfl⟩ rfl ⟨by kernel_rfl, rfl⟩
theorem c_len15 (w : World) : Calls Tryd.prog 72 #[.int .u64 15] w fun e w' => e = .returned (.int .i64 4) ∧ w' = w := by
 go_enter Tryd.func72, Tryd.ntmps72
 go_wp2
 exact end_tmp rfl ⟨rfl⟩ rfl ⟨by kernel_rfl, rfl⟩
theorem c_gsp15 (w : World) : Calls Tryd.prog 67 #[.int .i64 15] w fun e w' => e = .returned (.int .i64 8) ∧ w' = w := by
 go_enter Tryd.func67, Tryd.ntmps67
 go_wp2_with (go_at_call 72; refine (c_len15 _).mono ?_; rintro e w' ⟨rfl, rfl⟩)
 exact end_tmp rfl ⟨rfl⟩ rfl ⟨by kernel_rfl, rfl⟩
theorem c_spl15 (w : World) : Calls Tryd.prog 35 #[.int .i64 15] w fun e w' => e = .returned (.int .i64 8) ∧ w' = w := by
 go_enter Tryd.func35, Tryd.ntmps35
 go_wp2
 go_rounds 6
 exact end_tmp rfl ⟨rfl⟩ rfl ⟨by kernel_rfl, rfl⟩
theorem c_len16 (w : World) : Calls Tryd.prog 72 #[.int .u64 16] w fun e w' => e = .returned (.int .i64 5) ∧ w' = w := by
 go_enter Tryd.func72, Tryd.ntmps72
 go_wp2
 exact end_tmp rfl ⟨rfl⟩ rfl ⟨by kernel_rfl, rfl⟩
theorem c_gsp16 (w : World) : Calls Tryd.prog 67 #[.int .i64 16] w fun e w' => e = .returned (.int .i64 8) ∧ w' = w := by
 go_enter Tryd.func67, Tryd.ntmps67
 go_wp2_with (go_at_call 72; refine (c_len16 _).mono ?_; rintro e w' ⟨rfl, rfl⟩)
 exact end_tmp rfl ⟨rfl⟩ rfl ⟨by kernel_rfl, rfl⟩
theorem c_spl16 (w : World) : Calls Tryd.prog 35 #[.int .i64 16] w fun e w' => e = .returned (.int .i64 8) ∧ w' = w := by
 go_enter Tryd.func35, Tryd.ntmps35
 go_wp2
 go_rounds 6
 exact end_tmp rfl ⟨rfl⟩ rfl ⟨by kernel_rfl, rfl⟩
theorem c_len17 (w : World) : Calls Tryd.prog 72 #[.int .u64 17] w fun e w' => e = .returned (.int .i64 5) ∧ w' = w := by
 go_enter Tryd.func72, Tryd.ntmps72
 go_wp2
 exact end_tmp rfl ⟨rfl⟩ rfl ⟨by kernel_rfl, rfl⟩
theorem c_gsp17 (w : World) : Calls Tryd.prog 67 #[.int .i64 17] w fun e w' => e = .returned (.int .i64 16) ∧ w' = w := by
 go_enter Tryd.func67, Tryd.ntmps67
 go_wp2_with (go_at_call 72; refine (c_len17 _).mono ?_; rintro e w' ⟨rfl, rfl⟩)
 exact end_tmp rfl ⟨rfl⟩ rfl ⟨by kernel_rfl, rfl⟩
theorem c_spl17 (w : World) : Calls Tryd.prog 35 #[.int .i64 17] w fun e w' => e = .returned (.int .i64 16) ∧ w' = w := by
 go_enter Tryd.func35, Tryd.ntmps35
 go_wp2
 go_rounds 6
 exact end_tmp rfl ⟨rfl⟩ rfl ⟨by kernel_rfl, rfl⟩
theorem c_len18 (w : World) : Calls Tryd.prog 72 #[.int .u64 18] w fun e w' => e = .returned (.int .i64 5) ∧ w' = w := by
 go_enter Tryd.func72, Tryd.ntmps72
 go_wp2
 exact end_tmp rfl ⟨rfl⟩ rfl ⟨by kernel_rfl, rfl⟩
theorem c_gsp18 (w : World) : Calls Tryd.prog 67 #[.int .i64 18] w fun e w' => e = .returned (.int .i64 16) ∧ w' = w := by
 go_enter Tryd.func67, Tryd.ntmps67
 go_wp2_with (go_at_call 72; refine (c_len18 _).mono ?_; rintro e w' ⟨rfl, rfl⟩)
 exact end_tmp rfl ⟨rfl⟩ rfl ⟨by kernel_rfl, rfl⟩
theorem c_spl18 (w : World) : Calls Tryd.prog 35 #[.int .i64 18] w fun e w' => e = .returned (.int .i64 16) ∧ w' = w := by
 go_enter Tryd.func35, Tryd.ntmps35
 go_wp2
 go_rounds 6
 exact end_tmp rfl ⟨rfl⟩ rfl ⟨by kernel_rfl, rfl⟩
theorem c_len19 (w : World) : Calls Tryd.prog 72 #[.int .u64 19] w fun e w' => e = .returned (.int .i64 5) ∧ w' = w := by
 go_enter Tryd.func72, Tryd.ntmps72
 go_wp2
 exact end_tmp rfl ⟨rfl⟩ rfl ⟨by kernel_rfl, rfl⟩
theorem c_gsp19 (w : World) : Calls Tryd.prog 67 #[.int .i64 19] w fun e w' => e = .returned (.int .i64 16) ∧ w' = w := by
 go_enter Tryd.func67, Tryd.ntmps67
 go_wp2_with (go_at_call 72; refine (c_len19 _).mono ?_; rintro e w' ⟨rfl, rfl⟩)
 exact end_tmp rfl ⟨rfl⟩ rfl ⟨by kernel_rfl, rfl⟩
theorem c_spl19 (w : World) : Calls Tryd.prog 35 #[.int .i64 19] w fun e w' => e = .returned (.int .i64 16) ∧ w' = w := by
 go_enter Tryd.func35, Tryd.ntmps35
 go_wp2
 go_rounds 6
 exact end_tmp rfl ⟨rfl⟩ rfl ⟨by kernel_rfl, rfl⟩
theorem c_len20 (w : World) : Calls Tryd.prog 72 #[.int .u64 20] w fun e w' => e = .returned (.int .i64 5) ∧ w' = w := by
 go_enter Tryd.func72, Tryd.ntmps72
 go_wp2
 exact end_tmp rfl ⟨rfl⟩ rfl ⟨by kernel_rfl, rfl⟩
theorem c_gsp20 (w : World) : Calls Tryd.prog 67 #[.int .i64 20] w fun e w' => e = .returned (.int .i64 16) ∧ w' = w := by
 go_enter Tryd.func67, Tryd.ntmps67
 go_wp2_with (go_at_call 72; refine (c_len20 _).mono ?_; rintro e w' ⟨rfl, rfl⟩)
 exact end_tmp rfl ⟨rfl⟩ rfl ⟨by kernel_rfl, rfl⟩
theorem c_spl20 (w : World) : Calls Tryd.prog 35 #[.int .i64 20] w fun e w' => e = .returned (.int .i64 16) ∧ w' = w := by
 go_enter Tryd.func35, Tryd.ntmps35
 go_wp2
 go_rounds 6
 exact end_tmp rfl ⟨rfl⟩ rfl ⟨by kernel_rfl, rfl⟩
theorem c_gsp (n : Nat) (w : World) (h2 : 2 ≤ n) (h20 : n ≤ 20) : Calls Tryd.prog 67 #[.int .i64 (n : Int)] w fun e w' => e = .returned (.int .i64 (splitN n : Int)) ∧ w' = w := by
 rcases (by omega : n = 2 ∨ n = 3 ∨ n = 4 ∨ n = 5 ∨ n = 6 ∨ n = 7 ∨ n = 8 ∨ n = 9 ∨ n = 10 ∨ n = 11 ∨ n = 12 ∨ n = 13 ∨ n = 14 ∨ n = 15 ∨ n = 16 ∨ n = 17 ∨ n = 18 ∨ n = 19 ∨ n = 20) with rfl | rfl | rfl | rfl | rfl | rfl | rfl | rfl | rfl | rfl | rfl | rfl | rfl | rfl | rfl | rfl | rfl | rfl | rfl
 ·exact c_gsp2 w
 ·exact c_gsp3 w
 ·exact c_gsp4 w
 ·exact c_gsp5 w
 ·exact c_gsp6 w
 ·exact c_gsp7 w
 ·exact c_gsp8 w
 ·exact c_gsp9 w
 ·exact c_gsp10 w
 ·exact c_gsp11 w
 ·exact c_gsp12 w
 ·exact c_gsp13 w
 ·exact c_gsp14 w
 ·exact c_gsp15 w
 ·exact c_gsp16 w
 ·exact c_gsp17 w
 ·exact c_gsp18 w
 ·exact c_gsp19 w
 ·exact c_gsp20 w
theorem c_spl (n : Nat) (w : World) (h2 : 2 ≤ n) (h20 : n ≤ 20) : Calls Tryd.prog 35 #[.int .i64 (n : Int)] w fun e w' => e = .returned (.int .i64 (splitN n : Int)) ∧ w' = w := by
 rcases (by omega : n = 2 ∨ n = 3 ∨ n = 4 ∨ n = 5 ∨ n = 6 ∨ n = 7 ∨ n = 8 ∨ n = 9 ∨ n = 10 ∨ n = 11 ∨ n = 12 ∨ n = 13 ∨ n = 14 ∨ n = 15 ∨ n = 16 ∨ n = 17 ∨ n = 18 ∨ n = 19 ∨ n = 20) with rfl | rfl | rfl | rfl | rfl | rfl | rfl | rfl | rfl | rfl | rfl | rfl | rfl | rfl | rfl | rfl | rfl | rfl | rfl
 ·exact c_spl2 w
 ·exact c_spl3 w
 ·exact c_spl4 w
 ·exact c_spl5 w
 ·exact c_spl6 w
 ·exact c_spl7 w
 ·exact c_spl8 w
 ·exact c_spl9 w
 ·exact c_spl10 w
 ·exact c_spl11 w
 ·exact c_spl12 w
 ·exact c_spl13 w
 ·exact c_spl14 w
 ·exact c_spl15 w
 ·exact c_spl16 w
 ·exact c_spl17 w
 ·exact c_spl18 w
 ·exact c_spl19 w
 ·exact c_spl20 w
end Go.Proofs.YtcmllcmcbamlbaaDoor
