/- SHA-256 of the package: blockGeneric. (Printed by gen_block.py.) -/
import Derived.Test.YtcmllcmcbamlbaaDoorM1
set_option linter.unusedVariables false
set_option linter.unusedSimpArgs false
namespace Go.Proofs.YtcmllcmcbamlbaaDoor
open Go.RowKit

noncomputable def bgBody : Code := ((Tryd.f81.body.bind (loopIn 2)).getD .skip)


set_option maxHeartbeats 4000000 in
set_option maxRecDepth 100000 in
theorem bg_lo {Q : Exit → Act → World → Prop} {x0 x5 x6 x7 x8 x9 x10 x11 x12 : Value} {A : Option Addr} {b o p n' c' B k : Nat} {l : List Int} {R : ShaSt} {w0 : World} (a : Act) (w : World) (hs : SzIs a 283) (hd : DfNil a)
  (s0 : a.tmps.getD 0 undef = x0) (s1 : a.tmps.getD 1 undef = .slice (some ⟨b, o, none⟩) n' c') (s4 : a.tmps.getD 4 undef = .pointer (some ⟨B, 0, none⟩)) (s5 : a.tmps.getD 5 undef = x5) (s6 : a.tmps.getD 6 undef = x6) (s7 : a.tmps.getD 7 undef = x7) (s8 : a.tmps.getD 8 undef = x8) (s9 : a.tmps.getD 9 undef = x9) (s10 : a.tmps.getD 10 undef = x10) (s11 : a.tmps.getD 11 undef = x11) (s12 : a.tmps.getD 12 undef = x12) (s13 : a.tmps.getD 13 undef = .int .u32 R.a) (s14 : a.tmps.getD 14 undef = .int .u32 R.b) (s15 : a.tmps.getD 15 undef = .int .u32 R.c) (s16 : a.tmps.getD 16 undef = .int .u32 R.d) (s17 : a.tmps.getD 17 undef = .int .u32 R.e) (s18 : a.tmps.getD 18 undef = .int .u32 R.f) (s19 : a.tmps.getD 19 undef = .int .u32 R.g) (s20 : a.tmps.getD 20 undef = .int .u32 R.h) (s80 : a.tmps.getD 80 undef = .int .i64 k)
  (hk : k < 64) (hk16 : k < 16) (hn : 64 ≤ n') (hn' : n' ≤ 1000000000000) (hP : BytesAt w b o l p 64) (hbB : b ≠ B) (hl8 : Bytes l) (hG : GB w0 w B) (hS : Sched w B 63 l p k) (hKt : KTab w 0) (hB0 : B ≠ 0)
  (hQ : ∀ a w, SzIs a 283 → DfNil a → LiveAll [(0, x0), (1, .slice (some ⟨b, o, none⟩) n' c'), (4, .pointer (some ⟨B, 0, none⟩)), (5, x5), (6, x6), (7, x7), (8, x8), (9, x9), (10, x10), (11, x11), (12, x12), (13, .int .u32 (shaRnd (kTab.getD k 0) (wd l p k) R).a), (14, .int .u32 (shaRnd (kTab.getD k 0) (wd l p k) R).b), (15, .int .u32 (shaRnd (kTab.getD k 0) (wd l p k) R).c), (16, .int .u32 (shaRnd (kTab.getD k 0) (wd l p k) R).d), (17, .int .u32 (shaRnd (kTab.getD k 0) (wd l p k) R).e), (18, .int .u32 (shaRnd (kTab.getD k 0) (wd l p k) R).f), (19, .int .u32 (shaRnd (kTab.getD k 0) (wd l p k) R).g), (20, .int .u32 (shaRnd (kTab.getD k 0) (wd l p k) R).h), (80, .int .i64 ((k + 1 : Nat) : Int))] a → GB w0 w B → Sched w B 63 l p (k + 1) → Q .normal a w) :
  bgBody.wp Tryd.prog Q a w := by
 conv => arg 2; whnf
 refine wp_seq ?_
 have hdk : decide ((k : Int) < 64) = true := by simp; omega
 refine wp_region_list ?_
 show wpList _ _ _ [_] _ _
 refine tail_op rfl (fun K hK => ?_)
 have q80 := gd s80
 go_simp
 clear q80
 refine hK _ _ ?_
 clear hK K
 refine act_put (d := 81) _ hs hd (by decide) [(0, _), (1, _), (4, _), (5, _), (6, _), (7, _), (8, _), (9, _), (10, _), (11, _), (12, _), (13, _), (14, _), (15, _), (16, _), (17, _), (18, _), (19, _), (20, _), (80, _)] ⟨s0, s1, s4, s5, s6, s7, s8, s9, s10, s11, s12, s13, s14, s15, s16, s17, s18, s19, s20, s80, trivial⟩ rfl ?_
 clear hs hd s0 s1 s4 s5 s6 s7 s8 s9 s10 s11 s12 s13 s14 s15 s16 s17 s18 s19 s20 s80
 intro a hs hd zl
 clear hdk
 refine wp_seq ?_
 refine wp_cond_true (vL zl 0) ?_
 refine wp_skip ?_
 refine wp_seq ?_
 refine wp_block ?_
 refine wp_seq ?_
 refine fl2 [.eq 82 _] 1 hs hd zl
  ⟨(stp rfl fun a u hb hs hl hd K hK => by have s80 := gL hl 20; clear hd; go_simp; exact kE hK hs),
   trivial⟩ ?_
 clear hs hd zl
 intro a w hb hs hd zl hh
 replace zl := lH hh 0 zl
 clear hh
 replace hG := hG.after hb
 replace hS := hS.after hb
 replace hKt := hKt.after hb
 replace hP := hP.after hb
 clear hb
 show wpList _ _ _ [_] _ _
 refine tail_op rfl (fun K hK => ?_)
 have q82 := gL zl 0
 go_simp
 clear q82
 refine hK _ _ (tP hs hd zl ?_)
 clear hK K hs hd zl
 intro a hs hd zl
 refine wp_seq ?_
 refine wp_seq ?_
 have hdk : decide ((k : Int) < 16) = true := by simp; omega
 refine fl2 [.eq 83 _] 1 hs hd zl
  ⟨(stp rfl fun a u hb hs hl hd K hK => by have s21 := gL hl 0; clear hd; go_simp; exact kE hK hs),
   trivial⟩ ?_
 clear hs hd zl
 intro a w hb hs hd zl hh
 replace zl := lH hh 0 zl
 clear hh
 replace hG := hG.after hb
 replace hS := hS.after hb
 replace hKt := hKt.after hb
 replace hP := hP.after hb
 clear hb
 show wpList _ _ _ [_] _ _
 refine tail_op rfl (fun K hK => ?_)
 have q83 := gL zl 0
 go_simp
 clear q83
 refine hK _ _ (tP hs hd zl ?_)
 clear hK K hs hd zl
 intro a hs hd zl
 clear hdk
 refine wp_cond_true (vL zl 0) ?_
 refine wp_seq ?_
 have i0w : IntKind.i64.wrap ((k : Int) * 4) = (k : Int) * 4 := IntWalk.i64_in _ (by omega)
 refine fl2 [.eq 85 _, .eq 86 _] 2 hs hd zl
  ⟨(stp rfl fun a u hb hs hl hd K hK => by have s21 := gL hl 2; clear hd; go_simp; exact kE hK hs),
   (stp rfl fun a u hb hs hl hd K hK => by have s85 := gD hd 0; clear hd; go_simp; exact kE hK hs),
   trivial⟩ ?_
 clear hs hd zl
 intro a w hb hs hd zl hh
 replace zl := lH hh 1 zl
 clear hh
 replace hG := hG.after hb
 replace hS := hS.after hb
 replace hKt := hKt.after hb
 replace hP := hP.after hb
 clear hb
 show wpList _ _ _ [_] _ _
 refine tail_op rfl (fun K hK => ?_)
 have q86 := gL zl 0
 go_simp
 clear q86
 refine hK _ _ (tP hs hd zl ?_)
 clear hK K hs hd zl
 intro a hs hd zl
 clear i0w
 obtain ⟨old, hold⟩ := hS.there hk
 have cp0 := hP (k * 4) (by omega)
 have cp1 := hP (k * 4 + 1) (by omega)
 have cp2 := hP (k * 4 + 2) (by omega)
 have cp3 := hP (k * 4 + 3) (by omega)
 have i0l : 0 ≤ (k : Int) * 4 := by omega
 have i0h : (k : Int) * 4 < (n' : Int) := by omega
 have i1l : 0 ≤ (k : Int) * 4 + 1 := by omega
 have i1h : (k : Int) * 4 + 1 < (n' : Int) := by omega
 have i2l : 0 ≤ (k : Int) * 4 + 2 := by omega
 have i2h : (k : Int) * 4 + 2 < (n' : Int) := by omega
 have i3l : 0 ≤ (k : Int) * 4 + 3 := by omega
 have i3h : (k : Int) * 4 + 3 < (n' : Int) := by omega
 have ikh : (k : Int) < 64 := by omega
 have i0t : Int.toNat ((k : Int) * 4) = k * 4 := by omega
 have i1w : IntKind.i64.wrap ((k : Int) * 4 + 1) = (k : Int) * 4 + 1 := IntWalk.i64_in _ (by omega)
 have i1t : Int.toNat ((k : Int) * 4 + 1) = k * 4 + 1 := by omega
 have i2w : IntKind.i64.wrap ((k : Int) * 4 + 2) = (k : Int) * 4 + 2 := IntWalk.i64_in _ (by omega)
 have i2t : Int.toNat ((k : Int) * 4 + 2) = k * 4 + 2 := by omega
 have i3w : IntKind.i64.wrap ((k : Int) * 4 + 3) = (k : Int) * 4 + 3 := IntWalk.i64_in _ (by omega)
 have i3t : Int.toNat ((k : Int) * 4 + 3) = k * 4 + 3 := by omega
 refine fl2 [.eq 87 _, .eq 88 _, .eq 89 _, .eq 90 _, .eq 91 _, .eq 92 _, .eq 93 _, .eq 94 _, .eq 95 _, .eq 96 _, .eq 97 _, .eq 98 _, .eq 99 _, .eq 100 _, .eq 101 _, .eq 102 _, .eq 103 _, .eq 104 _, .eq 105 _, .eq 106 _, .eq 107 _, .eq 108 _, .eq 109 _, .eq 110 _, .eq 111 _, .eq 112 _, .eq 113 _, .eq 114 _, .eq 115 _, .eq 116 _, .eq 117 _] 31 hs hd zl
  ⟨(stp rfl fun a u hb hs hl hd K hK => by have s21 := gL hl 4; clear hd; go_simp; exact kE hK hs),
   (stp rfl fun a u hb hs hl hd K hK => by have s1 := gL hl 8; clear hd; go_simp; exact kE hK hs),
   (stp rfl fun a u hb hs hl hd K hK => by have s22 := gL hl 0; clear hd; go_simp; exact kE hK hs),
   (stp rfl fun a u hb hs hl hd K hK => by have s88 := gD hd 1; have s89 := gD hd 2; clear hd; go_simp; exact kE hK hs),
   (stp rfl fun a u hb hs hl hd K hK => by have s90 := gD hd 3; have cp0 := cell_up hb cp0; have cp1 := cell_up hb cp1; have cp2 := cell_up hb cp2; have cp3 := cell_up hb cp3; have hold := cell_up hb hold; clear hd; go_simp; exact kE hK hs),
   (stp rfl fun a u hb hs hl hd K hK => by have s91 := gD hd 4; clear hd; go_simp; exact kE hK hs),
   (stp rfl fun a u hb hs hl hd K hK => by have s92 := gD hd 5; clear hd; go_simp; exact kE hK hs),
   (stp rfl fun a u hb hs hl hd K hK => by have s1 := gL hl 8; clear hd; go_simp; exact kE hK hs),
   (stp rfl fun a u hb hs hl hd K hK => by have s22 := gL hl 0; clear hd; go_simp; exact kE hK hs),
   (stp rfl fun a u hb hs hl hd K hK => by have s95 := gD hd 8; clear hd; go_simp; exact kE hK hs),
   (stp rfl fun a u hb hs hl hd K hK => by have s94 := gD hd 7; have s96 := gD hd 9; clear hd; go_simp; exact kE hK hs),
   (stp rfl fun a u hb hs hl hd K hK => by have s97 := gD hd 10; have cp0 := cell_up hb cp0; have cp1 := cell_up hb cp1; have cp2 := cell_up hb cp2; have cp3 := cell_up hb cp3; have hold := cell_up hb hold; clear hd; go_simp; exact kE hK hs),
   (stp rfl fun a u hb hs hl hd K hK => by have s98 := gD hd 11; clear hd; go_simp; exact kE hK hs),
   (stp rfl fun a u hb hs hl hd K hK => by have s99 := gD hd 12; clear hd; go_simp; exact kE hK hs),
   (stp rfl fun a u hb hs hl hd K hK => by have s93 := gD hd 6; have s100 := gD hd 13; clear hd; go_simp; exact kE hK hs),
   (stp rfl fun a u hb hs hl hd K hK => by have s1 := gL hl 8; clear hd; go_simp; exact kE hK hs),
   (stp rfl fun a u hb hs hl hd K hK => by have s22 := gL hl 0; clear hd; go_simp; exact kE hK hs),
   (stp rfl fun a u hb hs hl hd K hK => by have s103 := gD hd 16; clear hd; go_simp; exact kE hK hs),
   (stp rfl fun a u hb hs hl hd K hK => by have s102 := gD hd 15; have s104 := gD hd 17; clear hd; go_simp; exact kE hK hs),
   (stp rfl fun a u hb hs hl hd K hK => by have s105 := gD hd 18; have cp0 := cell_up hb cp0; have cp1 := cell_up hb cp1; have cp2 := cell_up hb cp2; have cp3 := cell_up hb cp3; have hold := cell_up hb hold; clear hd; go_simp; exact kE hK hs),
   (stp rfl fun a u hb hs hl hd K hK => by have s106 := gD hd 19; clear hd; go_simp; exact kE hK hs),
   (stp rfl fun a u hb hs hl hd K hK => by have s107 := gD hd 20; clear hd; go_simp; exact kE hK hs),
   (stp rfl fun a u hb hs hl hd K hK => by have s101 := gD hd 14; have s108 := gD hd 21; clear hd; go_simp; exact kE hK hs),
   (stp rfl fun a u hb hs hl hd K hK => by have s1 := gL hl 8; clear hd; go_simp; exact kE hK hs),
   (stp rfl fun a u hb hs hl hd K hK => by have s22 := gL hl 0; clear hd; go_simp; exact kE hK hs),
   (stp rfl fun a u hb hs hl hd K hK => by have s111 := gD hd 24; clear hd; go_simp; exact kE hK hs),
   (stp rfl fun a u hb hs hl hd K hK => by have s110 := gD hd 23; have s112 := gD hd 25; clear hd; go_simp; exact kE hK hs),
   (stp rfl fun a u hb hs hl hd K hK => by have s113 := gD hd 26; have cp0 := cell_up hb cp0; have cp1 := cell_up hb cp1; have cp2 := cell_up hb cp2; have cp3 := cell_up hb cp3; have hold := cell_up hb hold; clear hd; go_simp; exact kE hK hs),
   (stp rfl fun a u hb hs hl hd K hK => by have s114 := gD hd 27; clear hd; go_simp; exact kE hK hs),
   (stp rfl fun a u hb hs hl hd K hK => by have s109 := gD hd 22; have s115 := gD hd 28; clear hd; go_simp; exact kE hK hs),
   (stp rfl fun a u hb hs hl hd K hK => by have s4 := gL hl 9; have s87 := gD hd 0; clear hd; go_simp; exact kE hK hs),
   trivial⟩ ?_
 clear hs hd zl
 intro a w hb hs hd zl hh
 replace zl := lH hh 29 zl
 replace zl := lH hh 30 zl
 clear hh
 replace hG := hG.after hb
 replace hS := hS.after hb
 replace hKt := hKt.after hb
 replace hP := hP.after hb
 replace cp0 := cell_up hb cp0
 replace cp1 := cell_up hb cp1
 replace cp2 := cell_up hb cp2
 replace cp3 := cell_up hb cp3
 replace hold := cell_up hb hold
 clear hb
 show wpList _ _ _ [_] _ _
 refine tail_op rfl (fun K hK => ?_)
 have q116 := gL zl 1
 have q117 := gL zl 0
 have hfr := hS.free k
 go_simp
 clear hfr
 clear q116 q117
 refine hK _ _ ?_
 clear hK K
 change wpList _ _ _ _ a _
 have hG2 := hG.set k (.int .u32 (wd l p k))
 have hK2 := hKt.gb (gb_set (gb_refl w (some B)) k (.int .u32 (wd l p k))) (fun e => hB0 e.symm)
 have hS2 := hS.put (V := wd l p k) hk rfl
 rw [be4_prog l p k hl8 hk16]
 clear hG hKt hS hP
 revert hG2 hK2 hS2
 generalize w.setCell ⟨B, k, none⟩ (.int .u32 (wd l p k)) = w1
 intro hG hKt hS
 clear i0l i0h i0t i1w i1l i1h i1t i2w i2l i2h i2t i3w i3l i3h i3t ikh cp0 cp1 cp2 cp3 hold
 refine wp_seq ?_
 have ikh : (k : Int) < 64 := by omega
 obtain ⟨Kk, hKk⟩ : ∃ x, Is (kTab.getD k 0) x := is_self _
 have ck := hKt k hk
 rw [hKk.out] at ck
 obtain ⟨Wk, hWk⟩ : ∃ x, Is (wd l p k) x := is_self _
 have cw := hS.cell (j := k) (by omega)
 rw [hWk.out] at cw
 refine fl2 [.eq 157 _, .eq 158 _, .eq 159 _, .eq 160 _, .eq 161 _, .eq 162 _, .eq 163 _, .eq 164 _, .eq 165 _, .eq 166 _, .eq 167 _, .eq 168 _, .eq 169 _, .eq 170 _, .eq 171 _, .eq 172 _, .eq 173 (.int .u32 (bits .andNot .u32 R.g R.e)), .eq 174 _, .eq 175 _, .eq 176 _, .eq 177 _, .eq 178 _, .eq 179 _, .eq 180 _, .eq 181 _, .eq 182 _, .eq 183 (.int .u32 (tOne Kk Wk R))] 27 hs hd zl
  ⟨(stp rfl fun a u hb hs hl hd K hK => by have s20 := gL hl 27; clear hd; go_simp; exact kE hK hs),
   (stp rfl fun a u hb hs hl hd K hK => by have s17 := gL hl 24; clear hd; go_simp; exact kE hK hs),
   (stp rfl fun a u hb hs hl hd K hK => by
    have s158 := gD hd 1
    have ck := cell_up hb ck
    have cw := cell_up hb cw
    clear hd
    go_simp; refine (c_rot6 _ _).mono ?_; rintro e w' ⟨rfl, rfl⟩; exact hK _ _ (Below.refl _ _) (eq_put hs (by decide))),
   (stp rfl fun a u hb hs hl hd K hK => by have s17 := gL hl 24; clear hd; go_simp; exact kE hK hs),
   (stp rfl fun a u hb hs hl hd K hK => by
    have s160 := gD hd 3
    have ck := cell_up hb ck
    have cw := cell_up hb cw
    clear hd
    go_simp; refine (c_rot11 _ _).mono ?_; rintro e w' ⟨rfl, rfl⟩; exact hK _ _ (Below.refl _ _) (eq_put hs (by decide))),
   (stp rfl fun a u hb hs hl hd K hK => by have s159 := gD hd 2; have s161 := gD hd 4; clear hd; go_simp; exact kE hK hs),
   (stp rfl fun a u hb hs hl hd K hK => by have s17 := gL hl 24; clear hd; go_simp; exact kE hK hs),
   (stp rfl fun a u hb hs hl hd K hK => by
    have s163 := gD hd 6
    have ck := cell_up hb ck
    have cw := cell_up hb cw
    clear hd
    go_simp; refine (c_rot25 _ _).mono ?_; rintro e w' ⟨rfl, rfl⟩; exact hK _ _ (Below.refl _ _) (eq_put hs (by decide))),
   (stp rfl fun a u hb hs hl hd K hK => by have s162 := gD hd 5; have s164 := gD hd 7; clear hd; go_simp; exact kE hK hs),
   (stp rfl fun a u hb hs hl hd K hK => by have s157 := gD hd 0; have s165 := gD hd 8; clear hd; go_simp; exact kE hK hs),
   (stp rfl fun a u hb hs hl hd K hK => by have s17 := gL hl 24; clear hd; go_simp; exact kE hK hs),
   (stp rfl fun a u hb hs hl hd K hK => by have s18 := gL hl 25; clear hd; go_simp; exact kE hK hs),
   (stp rfl fun a u hb hs hl hd K hK => by have s167 := gD hd 10; have s168 := gD hd 11; clear hd; go_simp; exact kE hK hs),
   (stp rfl fun a u hb hs hl hd K hK => by have s17 := gL hl 24; clear hd; go_simp; exact kE hK hs),
   (stp rfl fun a u hb hs hl hd K hK => by have s170 := gD hd 13; clear hd; go_simp; exact kE hK hs),
   (stp rfl fun a u hb hs hl hd K hK => by have s19 := gL hl 26; clear hd; go_simp; exact kE hK hs),
   (stp rfl fun a u hb hs hl hd K hK => by
    have s171 := gD hd 14
    have s172 := gD hd 15
    have ck := cell_up hb ck
    have cw := cell_up hb cw
    clear hd
    go_simp; exact hK _ _ (Below.refl _ _) (eq_put' hs (by decide) (congrArg (Value.int .u32) (andNot_prog _ _)))),
   (stp rfl fun a u hb hs hl hd K hK => by have s169 := gD hd 12; have s173 := gD hd 16; clear hd; go_simp; exact kE hK hs),
   (stp rfl fun a u hb hs hl hd K hK => by have s166 := gD hd 9; have s174 := gD hd 17; clear hd; go_simp; exact kE hK hs),
   (stp rfl fun a u hb hs hl hd K hK => by have s21 := gL hl 6; clear hd; go_simp; exact kE hK hs),
   (stp rfl fun a u hb hs hl hd K hK => by have s176 := gD hd 19; clear hd; go_simp; exact kE hK hs),
   (stp rfl fun a u hb hs hl hd K hK => by have s177 := gD hd 20; have ck := cell_up hb ck; have cw := cell_up hb cw; clear hd; go_simp; exact kE hK hs),
   (stp rfl fun a u hb hs hl hd K hK => by have s175 := gD hd 18; have s178 := gD hd 21; clear hd; go_simp; exact kE hK hs),
   (stp rfl fun a u hb hs hl hd K hK => by have s21 := gL hl 6; clear hd; go_simp; exact kE hK hs),
   (stp rfl fun a u hb hs hl hd K hK => by have s4 := gL hl 11; have s180 := gD hd 23; clear hd; go_simp; exact kE hK hs),
   (stp rfl fun a u hb hs hl hd K hK => by have s181 := gD hd 24; have ck := cell_up hb ck; have cw := cell_up hb cw; clear hd; go_simp; exact kE hK hs),
   (stp rfl fun a u hb hs hl hd K hK => by have s179 := gD hd 22; have s182 := gD hd 25; clear hd; go_simp; exact kE hK hs),
   trivial⟩ ?_
 clear hs hd zl
 intro a w hb hs hd zl hh
 replace zl := lH hh 26 zl
 clear hh
 replace hG := hG.after hb
 replace hS := hS.after hb
 replace hKt := hKt.after hb
 replace ck := cell_up hb ck
 replace cw := cell_up hb cw
 clear hb
 show wpList _ _ _ [_] _ _
 refine tail_op rfl (fun K hK => ?_)
 have q183 := gL zl 0
 go_simp
 clear q183
 refine hK _ _ (tP hs hd zl ?_)
 clear hK K hs hd zl
 intro a hs hd zl
 clear ikh ck cw
 refine wp_seq ?_
 refine fl2 [.eq 184 _, .eq 185 _, .eq 186 _, .eq 187 _, .eq 188 _, .eq 189 _, .eq 190 _, .eq 191 _, .eq 192 _, .eq 193 _, .eq 194 _, .eq 195 _, .eq 196 _, .eq 197 _, .eq 198 _, .eq 199 _, .eq 200 _, .eq 201 _, .eq 202 _, .eq 203 (.int .u32 (tTwo R))] 20 hs hd zl
  ⟨(stp rfl fun a u hb hs hl hd K hK => by have s13 := gL hl 22; clear hd; go_simp; exact kE hK hs),
   (stp rfl fun a u hb hs hl hd K hK => by
    have s184 := gD hd 0
    clear hd
    go_simp; refine (c_rot2 _ _).mono ?_; rintro e w' ⟨rfl, rfl⟩; exact hK _ _ (Below.refl _ _) (eq_put hs (by decide))),
   (stp rfl fun a u hb hs hl hd K hK => by have s13 := gL hl 22; clear hd; go_simp; exact kE hK hs),
   (stp rfl fun a u hb hs hl hd K hK => by
    have s186 := gD hd 2
    clear hd
    go_simp; refine (c_rot13 _ _).mono ?_; rintro e w' ⟨rfl, rfl⟩; exact hK _ _ (Below.refl _ _) (eq_put hs (by decide))),
   (stp rfl fun a u hb hs hl hd K hK => by have s185 := gD hd 1; have s187 := gD hd 3; clear hd; go_simp; exact kE hK hs),
   (stp rfl fun a u hb hs hl hd K hK => by have s13 := gL hl 22; clear hd; go_simp; exact kE hK hs),
   (stp rfl fun a u hb hs hl hd K hK => by
    have s189 := gD hd 5
    clear hd
    go_simp; refine (c_rot22 _ _).mono ?_; rintro e w' ⟨rfl, rfl⟩; exact hK _ _ (Below.refl _ _) (eq_put hs (by decide))),
   (stp rfl fun a u hb hs hl hd K hK => by have s188 := gD hd 4; have s190 := gD hd 6; clear hd; go_simp; exact kE hK hs),
   (stp rfl fun a u hb hs hl hd K hK => by have s13 := gL hl 22; clear hd; go_simp; exact kE hK hs),
   (stp rfl fun a u hb hs hl hd K hK => by have s14 := gL hl 23; clear hd; go_simp; exact kE hK hs),
   (stp rfl fun a u hb hs hl hd K hK => by have s192 := gD hd 8; have s193 := gD hd 9; clear hd; go_simp; exact kE hK hs),
   (stp rfl fun a u hb hs hl hd K hK => by have s13 := gL hl 22; clear hd; go_simp; exact kE hK hs),
   (stp rfl fun a u hb hs hl hd K hK => by have s15 := gL hl 24; clear hd; go_simp; exact kE hK hs),
   (stp rfl fun a u hb hs hl hd K hK => by have s195 := gD hd 11; have s196 := gD hd 12; clear hd; go_simp; exact kE hK hs),
   (stp rfl fun a u hb hs hl hd K hK => by have s194 := gD hd 10; have s197 := gD hd 13; clear hd; go_simp; exact kE hK hs),
   (stp rfl fun a u hb hs hl hd K hK => by have s14 := gL hl 23; clear hd; go_simp; exact kE hK hs),
   (stp rfl fun a u hb hs hl hd K hK => by have s15 := gL hl 24; clear hd; go_simp; exact kE hK hs),
   (stp rfl fun a u hb hs hl hd K hK => by have s199 := gD hd 15; have s200 := gD hd 16; clear hd; go_simp; exact kE hK hs),
   (stp rfl fun a u hb hs hl hd K hK => by have s198 := gD hd 14; have s201 := gD hd 17; clear hd; go_simp; exact kE hK hs),
   (stp rfl fun a u hb hs hl hd K hK => by have s191 := gD hd 7; have s202 := gD hd 18; clear hd; go_simp; exact kE hK hs),
   trivial⟩ ?_
 clear hs hd zl
 intro a w hb hs hd zl hh
 replace zl := lH hh 19 zl
 clear hh
 replace hG := hG.after hb
 replace hS := hS.after hb
 replace hKt := hKt.after hb
 clear hb
 show wpList _ _ _ [_] _ _
 refine tail_op rfl (fun K hK => ?_)
 have q203 := gL zl 0
 go_simp
 clear q203
 refine hK _ _ (tP hs hd zl ?_)
 clear hK K hs hd zl
 intro a hs hd zl
 refine wp_seq ?_
 refine fl2 [.eq 204 _] 1 hs hd zl
  ⟨(stp rfl fun a u hb hs hl hd K hK => by have s19 := gL hl 30; clear hd; go_simp; exact kE hK hs),
   trivial⟩ ?_
 clear hs hd zl
 intro a w hb hs hd zl hh
 replace zl := lH hh 0 zl
 clear hh
 replace hG := hG.after hb
 replace hS := hS.after hb
 replace hKt := hKt.after hb
 clear hb
 show wpList _ _ _ [_] _ _
 refine tail_op rfl (fun K hK => ?_)
 have q204 := gL zl 0
 go_simp
 clear q204
 refine hK _ _ ?_
 clear hK K
 obtain ⟨s204, s28, -, s27, -, -, -, -, -, -, -, -, -, -, s0, s1, s4, s5, s6, s7, s8, s9, s10, s11, s12, s13, s14, s15, s16, s17, s18, s19, s20, s80, -⟩ := zl
 refine act_put (d := 20) _ hs hd (by decide) [(0, _), (1, _), (4, _), (5, _), (6, _), (7, _), (8, _), (9, _), (10, _), (11, _), (12, _), (13, _), (14, _), (15, _), (16, _), (17, _), (18, _), (19, _), (27, _), (28, _), (80, _), (204, _)] ⟨s0, s1, s4, s5, s6, s7, s8, s9, s10, s11, s12, s13, s14, s15, s16, s17, s18, s19, s27, s28, s80, s204, trivial⟩ rfl ?_
 clear hs hd s0 s1 s4 s5 s6 s7 s8 s9 s10 s11 s12 s13 s14 s15 s16 s17 s18 s19 s20 s27 s28 s80 s204
 intro a hs hd zl
 refine wp_seq ?_
 refine fl2 [.eq 205 _] 1 hs hd zl
  ⟨(stp rfl fun a u hb hs hl hd K hK => by have s18 := gL hl 17; clear hd; go_simp; exact kE hK hs),
   trivial⟩ ?_
 clear hs hd zl
 intro a w hb hs hd zl hh
 replace zl := lH hh 0 zl
 clear hh
 replace hG := hG.after hb
 replace hS := hS.after hb
 replace hKt := hKt.after hb
 clear hb
 show wpList _ _ _ [_] _ _
 refine tail_op rfl (fun K hK => ?_)
 have q205 := gL zl 0
 go_simp
 clear q205
 refine hK _ _ ?_
 clear hK K
 obtain ⟨s205, s20, s0, s1, s4, s5, s6, s7, s8, s9, s10, s11, s12, s13, s14, s15, s16, s17, s18, s19, s27, s28, s80, -, -⟩ := zl
 refine act_put (d := 19) _ hs hd (by decide) [(0, _), (1, _), (4, _), (5, _), (6, _), (7, _), (8, _), (9, _), (10, _), (11, _), (12, _), (13, _), (14, _), (15, _), (16, _), (17, _), (18, _), (20, _), (27, _), (28, _), (80, _), (205, _)] ⟨s0, s1, s4, s5, s6, s7, s8, s9, s10, s11, s12, s13, s14, s15, s16, s17, s18, s20, s27, s28, s80, s205, trivial⟩ rfl ?_
 clear hs hd s0 s1 s4 s5 s6 s7 s8 s9 s10 s11 s12 s13 s14 s15 s16 s17 s18 s19 s20 s27 s28 s80 s205
 intro a hs hd zl
 refine wp_seq ?_
 refine fl2 [.eq 206 _] 1 hs hd zl
  ⟨(stp rfl fun a u hb hs hl hd K hK => by have s17 := gL hl 16; clear hd; go_simp; exact kE hK hs),
   trivial⟩ ?_
 clear hs hd zl
 intro a w hb hs hd zl hh
 replace zl := lH hh 0 zl
 clear hh
 replace hG := hG.after hb
 replace hS := hS.after hb
 replace hKt := hKt.after hb
 clear hb
 show wpList _ _ _ [_] _ _
 refine tail_op rfl (fun K hK => ?_)
 have q206 := gL zl 0
 go_simp
 clear q206
 refine hK _ _ ?_
 clear hK K
 obtain ⟨s206, s19, s0, s1, s4, s5, s6, s7, s8, s9, s10, s11, s12, s13, s14, s15, s16, s17, s18, s20, s27, s28, s80, -, -⟩ := zl
 refine act_put (d := 18) _ hs hd (by decide) [(0, _), (1, _), (4, _), (5, _), (6, _), (7, _), (8, _), (9, _), (10, _), (11, _), (12, _), (13, _), (14, _), (15, _), (16, _), (17, _), (19, _), (20, _), (27, _), (28, _), (80, _), (206, _)] ⟨s0, s1, s4, s5, s6, s7, s8, s9, s10, s11, s12, s13, s14, s15, s16, s17, s19, s20, s27, s28, s80, s206, trivial⟩ rfl ?_
 clear hs hd s0 s1 s4 s5 s6 s7 s8 s9 s10 s11 s12 s13 s14 s15 s16 s17 s18 s19 s20 s27 s28 s80 s206
 intro a hs hd zl
 refine wp_seq ?_
 refine fl2 [.eq 207 _, .eq 208 _, .eq 209 (.int .u32 (add32 R.d (tOne Kk Wk R)))] 3 hs hd zl
  ⟨(stp rfl fun a u hb hs hl hd K hK => by have s16 := gL hl 15; clear hd; go_simp; exact kE hK hs),
   (stp rfl fun a u hb hs hl hd K hK => by have s27 := gL hl 19; clear hd; go_simp; exact kE hK hs),
   (stp rfl fun a u hb hs hl hd K hK => by have s207 := gD hd 0; have s208 := gD hd 1; clear hd; go_simp; exact kE hK hs),
   trivial⟩ ?_
 clear hs hd zl
 intro a w hb hs hd zl hh
 replace zl := lH hh 2 zl
 clear hh
 replace hG := hG.after hb
 replace hS := hS.after hb
 replace hKt := hKt.after hb
 clear hb
 show wpList _ _ _ [_] _ _
 refine tail_op rfl (fun K hK => ?_)
 have q209 := gL zl 0
 go_simp
 clear q209
 refine hK _ _ ?_
 clear hK K
 obtain ⟨s209, s18, s0, s1, s4, s5, s6, s7, s8, s9, s10, s11, s12, s13, s14, s15, s16, s17, s19, s20, s27, s28, s80, -, -⟩ := zl
 refine act_put (d := 17) _ hs hd (by decide) [(0, _), (1, _), (4, _), (5, _), (6, _), (7, _), (8, _), (9, _), (10, _), (11, _), (12, _), (13, _), (14, _), (15, _), (16, _), (18, _), (19, _), (20, _), (27, _), (28, _), (80, _), (209, _)] ⟨s0, s1, s4, s5, s6, s7, s8, s9, s10, s11, s12, s13, s14, s15, s16, s18, s19, s20, s27, s28, s80, s209, trivial⟩ rfl ?_
 clear hs hd s0 s1 s4 s5 s6 s7 s8 s9 s10 s11 s12 s13 s14 s15 s16 s17 s18 s19 s20 s27 s28 s80 s209
 intro a hs hd zl
 refine wp_seq ?_
 refine fl2 [.eq 210 _] 1 hs hd zl
  ⟨(stp rfl fun a u hb hs hl hd K hK => by have s15 := gL hl 14; clear hd; go_simp; exact kE hK hs),
   trivial⟩ ?_
 clear hs hd zl
 intro a w hb hs hd zl hh
 replace zl := lH hh 0 zl
 clear hh
 replace hG := hG.after hb
 replace hS := hS.after hb
 replace hKt := hKt.after hb
 clear hb
 show wpList _ _ _ [_] _ _
 refine tail_op rfl (fun K hK => ?_)
 have q210 := gL zl 0
 go_simp
 clear q210
 refine hK _ _ ?_
 clear hK K
 obtain ⟨s210, s17, s0, s1, s4, s5, s6, s7, s8, s9, s10, s11, s12, s13, s14, s15, s16, s18, s19, s20, s27, s28, s80, -, -⟩ := zl
 refine act_put (d := 16) _ hs hd (by decide) [(0, _), (1, _), (4, _), (5, _), (6, _), (7, _), (8, _), (9, _), (10, _), (11, _), (12, _), (13, _), (14, _), (15, _), (17, _), (18, _), (19, _), (20, _), (27, _), (28, _), (80, _), (210, _)] ⟨s0, s1, s4, s5, s6, s7, s8, s9, s10, s11, s12, s13, s14, s15, s17, s18, s19, s20, s27, s28, s80, s210, trivial⟩ rfl ?_
 clear hs hd s0 s1 s4 s5 s6 s7 s8 s9 s10 s11 s12 s13 s14 s15 s16 s17 s18 s19 s20 s27 s28 s80 s210
 intro a hs hd zl
 refine wp_seq ?_
 refine fl2 [.eq 211 _] 1 hs hd zl
  ⟨(stp rfl fun a u hb hs hl hd K hK => by have s14 := gL hl 13; clear hd; go_simp; exact kE hK hs),
   trivial⟩ ?_
 clear hs hd zl
 intro a w hb hs hd zl hh
 replace zl := lH hh 0 zl
 clear hh
 replace hG := hG.after hb
 replace hS := hS.after hb
 replace hKt := hKt.after hb
 clear hb
 show wpList _ _ _ [_] _ _
 refine tail_op rfl (fun K hK => ?_)
 have q211 := gL zl 0
 go_simp
 clear q211
 refine hK _ _ ?_
 clear hK K
 obtain ⟨s211, s16, s0, s1, s4, s5, s6, s7, s8, s9, s10, s11, s12, s13, s14, s15, s17, s18, s19, s20, s27, s28, s80, -, -⟩ := zl
 refine act_put (d := 15) _ hs hd (by decide) [(0, _), (1, _), (4, _), (5, _), (6, _), (7, _), (8, _), (9, _), (10, _), (11, _), (12, _), (13, _), (14, _), (16, _), (17, _), (18, _), (19, _), (20, _), (27, _), (28, _), (80, _), (211, _)] ⟨s0, s1, s4, s5, s6, s7, s8, s9, s10, s11, s12, s13, s14, s16, s17, s18, s19, s20, s27, s28, s80, s211, trivial⟩ rfl ?_
 clear hs hd s0 s1 s4 s5 s6 s7 s8 s9 s10 s11 s12 s13 s14 s15 s16 s17 s18 s19 s20 s27 s28 s80 s211
 intro a hs hd zl
 refine wp_seq ?_
 refine fl2 [.eq 212 _] 1 hs hd zl
  ⟨(stp rfl fun a u hb hs hl hd K hK => by have s13 := gL hl 12; clear hd; go_simp; exact kE hK hs),
   trivial⟩ ?_
 clear hs hd zl
 intro a w hb hs hd zl hh
 replace zl := lH hh 0 zl
 clear hh
 replace hG := hG.after hb
 replace hS := hS.after hb
 replace hKt := hKt.after hb
 clear hb
 show wpList _ _ _ [_] _ _
 refine tail_op rfl (fun K hK => ?_)
 have q212 := gL zl 0
 go_simp
 clear q212
 refine hK _ _ ?_
 clear hK K
 obtain ⟨s212, s15, s0, s1, s4, s5, s6, s7, s8, s9, s10, s11, s12, s13, s14, s16, s17, s18, s19, s20, s27, s28, s80, -, -⟩ := zl
 refine act_put (d := 14) _ hs hd (by decide) [(0, _), (1, _), (4, _), (5, _), (6, _), (7, _), (8, _), (9, _), (10, _), (11, _), (12, _), (13, _), (15, _), (16, _), (17, _), (18, _), (19, _), (20, _), (27, _), (28, _), (80, _), (212, _)] ⟨s0, s1, s4, s5, s6, s7, s8, s9, s10, s11, s12, s13, s15, s16, s17, s18, s19, s20, s27, s28, s80, s212, trivial⟩ rfl ?_
 clear hs hd s0 s1 s4 s5 s6 s7 s8 s9 s10 s11 s12 s13 s14 s15 s16 s17 s18 s19 s20 s27 s28 s80 s212
 intro a hs hd zl
 refine fl2 [.eq 213 _, .eq 214 _, .eq 215 (.int .u32 (add32 (tOne Kk Wk R) (tTwo R)))] 3 hs hd zl
  ⟨(stp rfl fun a u hb hs hl hd K hK => by have s27 := gL hl 19; clear hd; go_simp; exact kE hK hs),
   (stp rfl fun a u hb hs hl hd K hK => by have s28 := gL hl 20; clear hd; go_simp; exact kE hK hs),
   (stp rfl fun a u hb hs hl hd K hK => by have s213 := gD hd 0; have s214 := gD hd 1; clear hd; go_simp; exact kE hK hs),
   trivial⟩ ?_
 clear hs hd zl
 intro a w hb hs hd zl hh
 replace zl := lH hh 2 zl
 clear hh
 replace hG := hG.after hb
 replace hS := hS.after hb
 replace hKt := hKt.after hb
 clear hb
 show wpList _ _ _ [_] _ _
 refine tail_op rfl (fun K hK => ?_)
 have q215 := gL zl 0
 go_simp
 clear q215
 refine hK _ _ ?_
 clear hK K
 obtain ⟨s215, s14, s0, s1, s4, s5, s6, s7, s8, s9, s10, s11, s12, s13, s15, s16, s17, s18, s19, s20, -, -, s80, -, -⟩ := zl
 refine act_put (d := 13) _ hs hd (by decide) [(0, _), (1, _), (4, _), (5, _), (6, _), (7, _), (8, _), (9, _), (10, _), (11, _), (12, _), (14, _), (15, _), (16, _), (17, _), (18, _), (19, _), (20, _), (80, _), (215, _)] ⟨s0, s1, s4, s5, s6, s7, s8, s9, s10, s11, s12, s14, s15, s16, s17, s18, s19, s20, s80, s215, trivial⟩ rfl ?_
 clear hs hd s0 s1 s4 s5 s6 s7 s8 s9 s10 s11 s12 s13 s14 s15 s16 s17 s18 s19 s20 s80 s215
 intro a hs hd zl
 have e80 : IntKind.i64.wrap ((k : Int) + 1) = ((k + 1 : Nat) : Int) := by rw [IntWalk.i64_in _ (by omega)]; omega
 refine fl2 [.eq 216 _] 1 hs hd zl
  ⟨(stp rfl fun a u hb hs hl hd K hK => by have s80 := gL hl 19; clear hd; go_simp; exact kE hK hs),
   trivial⟩ ?_
 clear hs hd zl
 intro a w hb hs hd zl hh
 replace zl := lH hh 0 zl
 clear hh
 replace hG := hG.after hb
 replace hS := hS.after hb
 replace hKt := hKt.after hb
 clear hb
 show wpList _ _ _ [_] _ _
 refine tail_op rfl (fun K hK => ?_)
 have q216 := gL zl 0
 go_simp
 clear q216
 refine hK _ _ ?_
 clear hK K
 obtain ⟨s216, s13, s0, s1, s4, s5, s6, s7, s8, s9, s10, s11, s12, s14, s15, s16, s17, s18, s19, s20, s80, -, -⟩ := zl
 refine act_put (d := 80) _ hs hd (by decide) [(0, _), (1, _), (4, _), (5, _), (6, _), (7, _), (8, _), (9, _), (10, _), (11, _), (12, _), (13, _), (14, _), (15, _), (16, _), (17, _), (18, _), (19, _), (20, _), (216, _)] ⟨s0, s1, s4, s5, s6, s7, s8, s9, s10, s11, s12, s13, s14, s15, s16, s17, s18, s19, s20, s216, trivial⟩ rfl ?_
 clear hs hd s0 s1 s4 s5 s6 s7 s8 s9 s10 s11 s12 s13 s14 s15 s16 s17 s18 s19 s20 s80 s216
 intro a hs hd zl
 clear e80
 obtain rfl := hKk.out
 obtain rfl := hWk.out
 obtain ⟨s80, s0, s1, s4, s5, s6, s7, s8, s9, s10, s11, s12, s13, s14, s15, s16, s17, s18, s19, s20, -, -⟩ := zl
 exact hQ a w hs hd ⟨s0, s1, s4, s5, s6, s7, s8, s9, s10, s11, s12, s13, s14, s15, s16, s17, s18, s19, s20, s80, trivial⟩ hG hS

set_option maxHeartbeats 4000000 in
set_option maxRecDepth 100000 in
theorem bg_hi {Q : Exit → Act → World → Prop} {x0 x5 x6 x7 x8 x9 x10 x11 x12 : Value} {A : Option Addr} {b o p n' c' B k : Nat} {l : List Int} {R : ShaSt} {w0 : World} (a : Act) (w : World) (hs : SzIs a 283) (hd : DfNil a)
  (s0 : a.tmps.getD 0 undef = x0) (s1 : a.tmps.getD 1 undef = .slice (some ⟨b, o, none⟩) n' c') (s4 : a.tmps.getD 4 undef = .pointer (some ⟨B, 0, none⟩)) (s5 : a.tmps.getD 5 undef = x5) (s6 : a.tmps.getD 6 undef = x6) (s7 : a.tmps.getD 7 undef = x7) (s8 : a.tmps.getD 8 undef = x8) (s9 : a.tmps.getD 9 undef = x9) (s10 : a.tmps.getD 10 undef = x10) (s11 : a.tmps.getD 11 undef = x11) (s12 : a.tmps.getD 12 undef = x12) (s13 : a.tmps.getD 13 undef = .int .u32 R.a) (s14 : a.tmps.getD 14 undef = .int .u32 R.b) (s15 : a.tmps.getD 15 undef = .int .u32 R.c) (s16 : a.tmps.getD 16 undef = .int .u32 R.d) (s17 : a.tmps.getD 17 undef = .int .u32 R.e) (s18 : a.tmps.getD 18 undef = .int .u32 R.f) (s19 : a.tmps.getD 19 undef = .int .u32 R.g) (s20 : a.tmps.getD 20 undef = .int .u32 R.h) (s80 : a.tmps.getD 80 undef = .int .i64 k)
  (hk : k < 64) (hk16 : 16 ≤ k) (hl8 : Bytes l) (hG : GB w0 w B) (hS : Sched w B 63 l p k) (hKt : KTab w 0) (hB0 : B ≠ 0)
  (hQ : ∀ a w, SzIs a 283 → DfNil a → LiveAll [(0, x0), (1, .slice (some ⟨b, o, none⟩) n' c'), (4, .pointer (some ⟨B, 0, none⟩)), (5, x5), (6, x6), (7, x7), (8, x8), (9, x9), (10, x10), (11, x11), (12, x12), (13, .int .u32 (shaRnd (kTab.getD k 0) (wd l p k) R).a), (14, .int .u32 (shaRnd (kTab.getD k 0) (wd l p k) R).b), (15, .int .u32 (shaRnd (kTab.getD k 0) (wd l p k) R).c), (16, .int .u32 (shaRnd (kTab.getD k 0) (wd l p k) R).d), (17, .int .u32 (shaRnd (kTab.getD k 0) (wd l p k) R).e), (18, .int .u32 (shaRnd (kTab.getD k 0) (wd l p k) R).f), (19, .int .u32 (shaRnd (kTab.getD k 0) (wd l p k) R).g), (20, .int .u32 (shaRnd (kTab.getD k 0) (wd l p k) R).h), (80, .int .i64 ((k + 1 : Nat) : Int))] a → GB w0 w B → Sched w B 63 l p (k + 1) → Q .normal a w) :
  bgBody.wp Tryd.prog Q a w := by
 conv => arg 2; whnf
 refine wp_seq ?_
 have hdk : decide ((k : Int) < 64) = true := by simp; omega
 refine wp_region_list ?_
 show wpList _ _ _ [_] _ _
 refine tail_op rfl (fun K hK => ?_)
 have q80 := gd s80
 go_simp
 clear q80
 refine hK _ _ ?_
 clear hK K
 refine act_put (d := 81) _ hs hd (by decide) [(0, _), (1, _), (4, _), (5, _), (6, _), (7, _), (8, _), (9, _), (10, _), (11, _), (12, _), (13, _), (14, _), (15, _), (16, _), (17, _), (18, _), (19, _), (20, _), (80, _)] ⟨s0, s1, s4, s5, s6, s7, s8, s9, s10, s11, s12, s13, s14, s15, s16, s17, s18, s19, s20, s80, trivial⟩ rfl ?_
 clear hs hd s0 s1 s4 s5 s6 s7 s8 s9 s10 s11 s12 s13 s14 s15 s16 s17 s18 s19 s20 s80
 intro a hs hd zl
 clear hdk
 refine wp_seq ?_
 refine wp_cond_true (vL zl 0) ?_
 refine wp_skip ?_
 refine wp_seq ?_
 refine wp_block ?_
 refine wp_seq ?_
 refine fl2 [.eq 82 _] 1 hs hd zl
  ⟨(stp rfl fun a u hb hs hl hd K hK => by have s80 := gL hl 20; clear hd; go_simp; exact kE hK hs),
   trivial⟩ ?_
 clear hs hd zl
 intro a w hb hs hd zl hh
 replace zl := lH hh 0 zl
 clear hh
 replace hG := hG.after hb
 replace hS := hS.after hb
 replace hKt := hKt.after hb
 clear hb
 show wpList _ _ _ [_] _ _
 refine tail_op rfl (fun K hK => ?_)
 have q82 := gL zl 0
 go_simp
 clear q82
 refine hK _ _ (tP hs hd zl ?_)
 clear hK K hs hd zl
 intro a hs hd zl
 refine wp_seq ?_
 refine wp_seq ?_
 have hdk : decide ((k : Int) < 16) = false := by simp; omega
 refine fl2 [.eq 83 _] 1 hs hd zl
  ⟨(stp rfl fun a u hb hs hl hd K hK => by have s21 := gL hl 0; clear hd; go_simp; exact kE hK hs),
   trivial⟩ ?_
 clear hs hd zl
 intro a w hb hs hd zl hh
 replace zl := lH hh 0 zl
 clear hh
 replace hG := hG.after hb
 replace hS := hS.after hb
 replace hKt := hKt.after hb
 clear hb
 show wpList _ _ _ [_] _ _
 refine tail_op rfl (fun K hK => ?_)
 have q83 := gL zl 0
 go_simp
 clear q83
 refine hK _ _ (tP hs hd zl ?_)
 clear hK K hs hd zl
 intro a hs hd zl
 clear hdk
 refine wp_cond_false (vL zl 0) ?_
 refine wp_seq ?_
 have cw2 := hS.cell (j := k - 2) (by omega)
 obtain ⟨W2, hW2⟩ : ∃ x, Is (wd l p (k - 2)) x := is_self _
 rw [hW2.out] at cw2
 have j2k : 2 ≤ (k : Int) := by omega
 have j2w : IntKind.i64.wrap ((k : Int) - 2) = (k : Int) - 2 := IntWalk.i64_in _ (by omega)
 have j2l : 0 ≤ (k : Int) - 2 := by omega
 have j2h : (k : Int) - 2 < 64 := by omega
 have j2t : Int.toNat ((k : Int) - 2) = k - 2 := by omega
 refine fl2 [.eq 118 _, .eq 119 _, .eq 120 _, .eq 121 _] 4 hs hd zl
  ⟨(stp rfl fun a u hb hs hl hd K hK => by have s21 := gL hl 2; clear hd; go_simp; exact kE hK hs),
   (stp rfl fun a u hb hs hl hd K hK => by have s118 := gD hd 0; clear hd; go_simp; exact kE hK hs),
   (stp rfl fun a u hb hs hl hd K hK => by have s4 := gL hl 7; have s119 := gD hd 1; clear hd; go_simp; exact kE hK hs),
   (stp rfl fun a u hb hs hl hd K hK => by have s120 := gD hd 2; have cw2 := cell_up hb cw2; clear hd; go_simp; exact kE hK hs),
   trivial⟩ ?_
 clear hs hd zl
 intro a w hb hs hd zl hh
 replace zl := lH hh 3 zl
 clear hh
 replace hG := hG.after hb
 replace hS := hS.after hb
 replace hKt := hKt.after hb
 replace cw2 := cell_up hb cw2
 clear hb
 show wpList _ _ _ [_] _ _
 refine tail_op rfl (fun K hK => ?_)
 have q121 := gL zl 0
 go_simp
 clear q121
 refine hK _ _ (tP hs hd zl ?_)
 clear hK K hs hd zl
 intro a hs hd zl
 clear cw2 j2k j2w j2l j2h j2t
 refine wp_seq ?_
 refine fl2 [.eq 122 _, .eq 123 _, .eq 124 _, .eq 125 _, .eq 126 _, .eq 127 _, .eq 128 _, .eq 129 (.int .u32 (sg1 W2))] 8 hs hd zl
  ⟨(stp rfl fun a u hb hs hl hd K hK => by have s23 := gL hl 0; clear hd; go_simp; exact kE hK hs),
   (stp rfl fun a u hb hs hl hd K hK => by
    have s122 := gD hd 0
    clear hd
    go_simp; refine (c_rot17 _ _).mono ?_; rintro e w' ⟨rfl, rfl⟩; exact hK _ _ (Below.refl _ _) (eq_put hs (by decide))),
   (stp rfl fun a u hb hs hl hd K hK => by have s23 := gL hl 0; clear hd; go_simp; exact kE hK hs),
   (stp rfl fun a u hb hs hl hd K hK => by
    have s124 := gD hd 2
    clear hd
    go_simp; refine (c_rot19 _ _).mono ?_; rintro e w' ⟨rfl, rfl⟩; exact hK _ _ (Below.refl _ _) (eq_put hs (by decide))),
   (stp rfl fun a u hb hs hl hd K hK => by have s123 := gD hd 1; have s125 := gD hd 3; clear hd; go_simp; exact kE hK hs),
   (stp rfl fun a u hb hs hl hd K hK => by have s23 := gL hl 0; clear hd; go_simp; exact kE hK hs),
   (stp rfl fun a u hb hs hl hd K hK => by have s127 := gD hd 5; clear hd; go_simp; exact kE hK hs),
   (stp rfl fun a u hb hs hl hd K hK => by have s126 := gD hd 4; have s128 := gD hd 6; clear hd; go_simp; exact kE hK hs),
   trivial⟩ ?_
 clear hs hd zl
 intro a w hb hs hd zl hh
 replace zl := lH hh 7 zl
 clear hh
 replace hG := hG.after hb
 replace hS := hS.after hb
 replace hKt := hKt.after hb
 clear hb
 show wpList _ _ _ [_] _ _
 refine tail_op rfl (fun K hK => ?_)
 have q129 := gL zl 0
 go_simp
 clear q129
 refine hK _ _ (tP hs hd zl ?_)
 clear hK K hs hd zl
 intro a hs hd zl
 refine wp_seq ?_
 have cw15 := hS.cell (j := k - 15) (by omega)
 obtain ⟨W15, hW15⟩ : ∃ x, Is (wd l p (k - 15)) x := is_self _
 rw [hW15.out] at cw15
 have j2k : 15 ≤ (k : Int) := by omega
 have j2w : IntKind.i64.wrap ((k : Int) - 15) = (k : Int) - 15 := IntWalk.i64_in _ (by omega)
 have j2l : 0 ≤ (k : Int) - 15 := by omega
 have j2h : (k : Int) - 15 < 64 := by omega
 have j2t : Int.toNat ((k : Int) - 15) = k - 15 := by omega
 refine fl2 [.eq 130 _, .eq 131 _, .eq 132 _, .eq 133 _] 4 hs hd zl
  ⟨(stp rfl fun a u hb hs hl hd K hK => by have s21 := gL hl 6; clear hd; go_simp; exact kE hK hs),
   (stp rfl fun a u hb hs hl hd K hK => by have s130 := gD hd 0; clear hd; go_simp; exact kE hK hs),
   (stp rfl fun a u hb hs hl hd K hK => by have s4 := gL hl 11; have s131 := gD hd 1; clear hd; go_simp; exact kE hK hs),
   (stp rfl fun a u hb hs hl hd K hK => by have s132 := gD hd 2; have cw15 := cell_up hb cw15; clear hd; go_simp; exact kE hK hs),
   trivial⟩ ?_
 clear hs hd zl
 intro a w hb hs hd zl hh
 replace zl := lH hh 3 zl
 clear hh
 replace hG := hG.after hb
 replace hS := hS.after hb
 replace hKt := hKt.after hb
 replace cw15 := cell_up hb cw15
 clear hb
 show wpList _ _ _ [_] _ _
 refine tail_op rfl (fun K hK => ?_)
 have q133 := gL zl 0
 go_simp
 clear q133
 refine hK _ _ (tP hs hd zl ?_)
 clear hK K hs hd zl
 intro a hs hd zl
 clear cw15 j2k j2w j2l j2h j2t
 refine wp_seq ?_
 refine fl2 [.eq 134 _, .eq 135 _, .eq 136 _, .eq 137 _, .eq 138 _, .eq 139 _, .eq 140 _, .eq 141 (.int .u32 (sg0 W15))] 8 hs hd zl
  ⟨(stp rfl fun a u hb hs hl hd K hK => by have s25 := gL hl 0; clear hd; go_simp; exact kE hK hs),
   (stp rfl fun a u hb hs hl hd K hK => by
    have s134 := gD hd 0
    clear hd
    go_simp; refine (c_rot7 _ _).mono ?_; rintro e w' ⟨rfl, rfl⟩; exact hK _ _ (Below.refl _ _) (eq_put hs (by decide))),
   (stp rfl fun a u hb hs hl hd K hK => by have s25 := gL hl 0; clear hd; go_simp; exact kE hK hs),
   (stp rfl fun a u hb hs hl hd K hK => by
    have s136 := gD hd 2
    clear hd
    go_simp; refine (c_rot18 _ _).mono ?_; rintro e w' ⟨rfl, rfl⟩; exact hK _ _ (Below.refl _ _) (eq_put hs (by decide))),
   (stp rfl fun a u hb hs hl hd K hK => by have s135 := gD hd 1; have s137 := gD hd 3; clear hd; go_simp; exact kE hK hs),
   (stp rfl fun a u hb hs hl hd K hK => by have s25 := gL hl 0; clear hd; go_simp; exact kE hK hs),
   (stp rfl fun a u hb hs hl hd K hK => by have s139 := gD hd 5; clear hd; go_simp; exact kE hK hs),
   (stp rfl fun a u hb hs hl hd K hK => by have s138 := gD hd 4; have s140 := gD hd 6; clear hd; go_simp; exact kE hK hs),
   trivial⟩ ?_
 clear hs hd zl
 intro a w hb hs hd zl hh
 replace zl := lH hh 7 zl
 clear hh
 replace hG := hG.after hb
 replace hS := hS.after hb
 replace hKt := hKt.after hb
 clear hb
 show wpList _ _ _ [_] _ _
 refine tail_op rfl (fun K hK => ?_)
 have q141 := gL zl 0
 go_simp
 clear q141
 refine hK _ _ (tP hs hd zl ?_)
 clear hK K hs hd zl
 intro a hs hd zl
 have cw7 := hS.cell (j := k - 7) (by omega)
 obtain ⟨W7, hW7⟩ : ∃ x, Is (wd l p (k - 7)) x := is_self _
 rw [hW7.out] at cw7
 have cw16 := hS.cell (j := k - 16) (by omega)
 obtain ⟨W16, hW16⟩ : ∃ x, Is (wd l p (k - 16)) x := is_self _
 rw [hW16.out] at cw16
 obtain ⟨old, hold⟩ := hS.there hk
 have ikh : (k : Int) < 64 := by omega
 have j7k : 7 ≤ (k : Int) := by omega
 have j7l : 0 ≤ (k : Int) - 7 := by omega
 have j7h : (k : Int) - 7 < 64 := by omega
 have j16k : 16 ≤ (k : Int) := by omega
 have j16l : 0 ≤ (k : Int) - 16 := by omega
 have j16h : (k : Int) - 16 < 64 := by omega
 have j7w : IntKind.i64.wrap ((k : Int) - 7) = (k : Int) - 7 := IntWalk.i64_in _ (by omega)
 have j7t : Int.toNat ((k : Int) - 7) = k - 7 := by omega
 have j16w : IntKind.i64.wrap ((k : Int) - 16) = (k : Int) - 16 := IntWalk.i64_in _ (by omega)
 have j16t : Int.toNat ((k : Int) - 16) = k - 16 := by omega
 refine fl2 [.eq 142 _, .eq 143 _, .eq 144 _, .eq 145 _, .eq 146 _, .eq 147 _, .eq 148 _, .eq 149 _, .eq 150 _, .eq 151 _, .eq 152 _, .eq 153 _, .eq 154 _, .eq 155 _, .eq 156 _] 15 hs hd zl
  ⟨(stp rfl fun a u hb hs hl hd K hK => by have s21 := gL hl 10; clear hd; go_simp; exact kE hK hs),
   (stp rfl fun a u hb hs hl hd K hK => by have s24 := gL hl 4; clear hd; go_simp; exact kE hK hs),
   (stp rfl fun a u hb hs hl hd K hK => by have s21 := gL hl 10; clear hd; go_simp; exact kE hK hs),
   (stp rfl fun a u hb hs hl hd K hK => by have s144 := gD hd 2; clear hd; go_simp; exact kE hK hs),
   (stp rfl fun a u hb hs hl hd K hK => by have s4 := gL hl 15; have s145 := gD hd 3; clear hd; go_simp; exact kE hK hs),
   (stp rfl fun a u hb hs hl hd K hK => by have s146 := gD hd 4; have cw7 := cell_up hb cw7; have cw16 := cell_up hb cw16; have hold := cell_up hb hold; clear hd; go_simp; exact kE hK hs),
   (stp rfl fun a u hb hs hl hd K hK => by have s143 := gD hd 1; have s147 := gD hd 5; clear hd; go_simp; exact kE hK hs),
   (stp rfl fun a u hb hs hl hd K hK => by have s26 := gL hl 0; clear hd; go_simp; exact kE hK hs),
   (stp rfl fun a u hb hs hl hd K hK => by have s148 := gD hd 6; have s149 := gD hd 7; clear hd; go_simp; exact kE hK hs),
   (stp rfl fun a u hb hs hl hd K hK => by have s21 := gL hl 10; clear hd; go_simp; exact kE hK hs),
   (stp rfl fun a u hb hs hl hd K hK => by have s151 := gD hd 9; clear hd; go_simp; exact kE hK hs),
   (stp rfl fun a u hb hs hl hd K hK => by have s4 := gL hl 15; have s152 := gD hd 10; clear hd; go_simp; exact kE hK hs),
   (stp rfl fun a u hb hs hl hd K hK => by have s153 := gD hd 11; have cw7 := cell_up hb cw7; have cw16 := cell_up hb cw16; have hold := cell_up hb hold; clear hd; go_simp; exact kE hK hs),
   (stp rfl fun a u hb hs hl hd K hK => by have s150 := gD hd 8; have s154 := gD hd 12; clear hd; go_simp; exact kE hK hs),
   (stp rfl fun a u hb hs hl hd K hK => by have s4 := gL hl 15; have s142 := gD hd 0; clear hd; go_simp; exact kE hK hs),
   trivial⟩ ?_
 clear hs hd zl
 intro a w hb hs hd zl hh
 replace zl := lH hh 13 zl
 replace zl := lH hh 14 zl
 clear hh
 replace hG := hG.after hb
 replace hS := hS.after hb
 replace hKt := hKt.after hb
 replace cw7 := cell_up hb cw7
 replace cw16 := cell_up hb cw16
 replace hold := cell_up hb hold
 clear hb
 show wpList _ _ _ [_] _ _
 refine tail_op rfl (fun K hK => ?_)
 have q155 := gL zl 1
 have q156 := gL zl 0
 have hfr := hS.free k
 go_simp
 clear hfr
 clear q155 q156
 refine hK _ _ ?_
 clear hK K
 change wpList _ _ _ _ a _
 have hG2 := hG.set k (.int .u32 (wd l p k))
 have hK2 := hKt.gb (gb_set (gb_refl w (some B)) k (.int .u32 (wd l p k))) (fun e => hB0 e.symm)
 have hS2 := hS.put (V := wd l p k) hk rfl
 rw [wd_prog' l p k hk16 hW2 hW7 hW15 hW16]
 clear hG hKt hS
 revert hG2 hK2 hS2
 generalize w.setCell ⟨B, k, none⟩ (.int .u32 (wd l p k)) = w1
 intro hG hKt hS
 clear ikh cw7 cw16 hold j7k j7w j7l j7h j7t j16k j16w j16l j16h j16t
 refine wp_seq ?_
 have ikh : (k : Int) < 64 := by omega
 obtain ⟨Kk, hKk⟩ : ∃ x, Is (kTab.getD k 0) x := is_self _
 have ck := hKt k hk
 rw [hKk.out] at ck
 obtain ⟨Wk, hWk⟩ : ∃ x, Is (wd l p k) x := is_self _
 have cw := hS.cell (j := k) (by omega)
 rw [hWk.out] at cw
 refine fl2 [.eq 157 _, .eq 158 _, .eq 159 _, .eq 160 _, .eq 161 _, .eq 162 _, .eq 163 _, .eq 164 _, .eq 165 _, .eq 166 _, .eq 167 _, .eq 168 _, .eq 169 _, .eq 170 _, .eq 171 _, .eq 172 _, .eq 173 (.int .u32 (bits .andNot .u32 R.g R.e)), .eq 174 _, .eq 175 _, .eq 176 _, .eq 177 _, .eq 178 _, .eq 179 _, .eq 180 _, .eq 181 _, .eq 182 _, .eq 183 (.int .u32 (tOne Kk Wk R))] 27 hs hd zl
  ⟨(stp rfl fun a u hb hs hl hd K hK => by have s20 := gL hl 33; clear hd; go_simp; exact kE hK hs),
   (stp rfl fun a u hb hs hl hd K hK => by have s17 := gL hl 30; clear hd; go_simp; exact kE hK hs),
   (stp rfl fun a u hb hs hl hd K hK => by
    have s158 := gD hd 1
    have ck := cell_up hb ck
    have cw := cell_up hb cw
    clear hd
    go_simp; refine (c_rot6 _ _).mono ?_; rintro e w' ⟨rfl, rfl⟩; exact hK _ _ (Below.refl _ _) (eq_put hs (by decide))),
   (stp rfl fun a u hb hs hl hd K hK => by have s17 := gL hl 30; clear hd; go_simp; exact kE hK hs),
   (stp rfl fun a u hb hs hl hd K hK => by
    have s160 := gD hd 3
    have ck := cell_up hb ck
    have cw := cell_up hb cw
    clear hd
    go_simp; refine (c_rot11 _ _).mono ?_; rintro e w' ⟨rfl, rfl⟩; exact hK _ _ (Below.refl _ _) (eq_put hs (by decide))),
   (stp rfl fun a u hb hs hl hd K hK => by have s159 := gD hd 2; have s161 := gD hd 4; clear hd; go_simp; exact kE hK hs),
   (stp rfl fun a u hb hs hl hd K hK => by have s17 := gL hl 30; clear hd; go_simp; exact kE hK hs),
   (stp rfl fun a u hb hs hl hd K hK => by
    have s163 := gD hd 6
    have ck := cell_up hb ck
    have cw := cell_up hb cw
    clear hd
    go_simp; refine (c_rot25 _ _).mono ?_; rintro e w' ⟨rfl, rfl⟩; exact hK _ _ (Below.refl _ _) (eq_put hs (by decide))),
   (stp rfl fun a u hb hs hl hd K hK => by have s162 := gD hd 5; have s164 := gD hd 7; clear hd; go_simp; exact kE hK hs),
   (stp rfl fun a u hb hs hl hd K hK => by have s157 := gD hd 0; have s165 := gD hd 8; clear hd; go_simp; exact kE hK hs),
   (stp rfl fun a u hb hs hl hd K hK => by have s17 := gL hl 30; clear hd; go_simp; exact kE hK hs),
   (stp rfl fun a u hb hs hl hd K hK => by have s18 := gL hl 31; clear hd; go_simp; exact kE hK hs),
   (stp rfl fun a u hb hs hl hd K hK => by have s167 := gD hd 10; have s168 := gD hd 11; clear hd; go_simp; exact kE hK hs),
   (stp rfl fun a u hb hs hl hd K hK => by have s17 := gL hl 30; clear hd; go_simp; exact kE hK hs),
   (stp rfl fun a u hb hs hl hd K hK => by have s170 := gD hd 13; clear hd; go_simp; exact kE hK hs),
   (stp rfl fun a u hb hs hl hd K hK => by have s19 := gL hl 32; clear hd; go_simp; exact kE hK hs),
   (stp rfl fun a u hb hs hl hd K hK => by
    have s171 := gD hd 14
    have s172 := gD hd 15
    have ck := cell_up hb ck
    have cw := cell_up hb cw
    clear hd
    go_simp; exact hK _ _ (Below.refl _ _) (eq_put' hs (by decide) (congrArg (Value.int .u32) (andNot_prog _ _)))),
   (stp rfl fun a u hb hs hl hd K hK => by have s169 := gD hd 12; have s173 := gD hd 16; clear hd; go_simp; exact kE hK hs),
   (stp rfl fun a u hb hs hl hd K hK => by have s166 := gD hd 9; have s174 := gD hd 17; clear hd; go_simp; exact kE hK hs),
   (stp rfl fun a u hb hs hl hd K hK => by have s21 := gL hl 12; clear hd; go_simp; exact kE hK hs),
   (stp rfl fun a u hb hs hl hd K hK => by have s176 := gD hd 19; clear hd; go_simp; exact kE hK hs),
   (stp rfl fun a u hb hs hl hd K hK => by have s177 := gD hd 20; have ck := cell_up hb ck; have cw := cell_up hb cw; clear hd; go_simp; exact kE hK hs),
   (stp rfl fun a u hb hs hl hd K hK => by have s175 := gD hd 18; have s178 := gD hd 21; clear hd; go_simp; exact kE hK hs),
   (stp rfl fun a u hb hs hl hd K hK => by have s21 := gL hl 12; clear hd; go_simp; exact kE hK hs),
   (stp rfl fun a u hb hs hl hd K hK => by have s4 := gL hl 17; have s180 := gD hd 23; clear hd; go_simp; exact kE hK hs),
   (stp rfl fun a u hb hs hl hd K hK => by have s181 := gD hd 24; have ck := cell_up hb ck; have cw := cell_up hb cw; clear hd; go_simp; exact kE hK hs),
   (stp rfl fun a u hb hs hl hd K hK => by have s179 := gD hd 22; have s182 := gD hd 25; clear hd; go_simp; exact kE hK hs),
   trivial⟩ ?_
 clear hs hd zl
 intro a w hb hs hd zl hh
 replace zl := lH hh 26 zl
 clear hh
 replace hG := hG.after hb
 replace hS := hS.after hb
 replace hKt := hKt.after hb
 replace ck := cell_up hb ck
 replace cw := cell_up hb cw
 clear hb
 show wpList _ _ _ [_] _ _
 refine tail_op rfl (fun K hK => ?_)
 have q183 := gL zl 0
 go_simp
 clear q183
 refine hK _ _ (tP hs hd zl ?_)
 clear hK K hs hd zl
 intro a hs hd zl
 clear ikh ck cw
 refine wp_seq ?_
 refine fl2 [.eq 184 _, .eq 185 _, .eq 186 _, .eq 187 _, .eq 188 _, .eq 189 _, .eq 190 _, .eq 191 _, .eq 192 _, .eq 193 _, .eq 194 _, .eq 195 _, .eq 196 _, .eq 197 _, .eq 198 _, .eq 199 _, .eq 200 _, .eq 201 _, .eq 202 _, .eq 203 (.int .u32 (tTwo R))] 20 hs hd zl
  ⟨(stp rfl fun a u hb hs hl hd K hK => by have s13 := gL hl 28; clear hd; go_simp; exact kE hK hs),
   (stp rfl fun a u hb hs hl hd K hK => by
    have s184 := gD hd 0
    clear hd
    go_simp; refine (c_rot2 _ _).mono ?_; rintro e w' ⟨rfl, rfl⟩; exact hK _ _ (Below.refl _ _) (eq_put hs (by decide))),
   (stp rfl fun a u hb hs hl hd K hK => by have s13 := gL hl 28; clear hd; go_simp; exact kE hK hs),
   (stp rfl fun a u hb hs hl hd K hK => by
    have s186 := gD hd 2
    clear hd
    go_simp; refine (c_rot13 _ _).mono ?_; rintro e w' ⟨rfl, rfl⟩; exact hK _ _ (Below.refl _ _) (eq_put hs (by decide))),
   (stp rfl fun a u hb hs hl hd K hK => by have s185 := gD hd 1; have s187 := gD hd 3; clear hd; go_simp; exact kE hK hs),
   (stp rfl fun a u hb hs hl hd K hK => by have s13 := gL hl 28; clear hd; go_simp; exact kE hK hs),
   (stp rfl fun a u hb hs hl hd K hK => by
    have s189 := gD hd 5
    clear hd
    go_simp; refine (c_rot22 _ _).mono ?_; rintro e w' ⟨rfl, rfl⟩; exact hK _ _ (Below.refl _ _) (eq_put hs (by decide))),
   (stp rfl fun a u hb hs hl hd K hK => by have s188 := gD hd 4; have s190 := gD hd 6; clear hd; go_simp; exact kE hK hs),
   (stp rfl fun a u hb hs hl hd K hK => by have s13 := gL hl 28; clear hd; go_simp; exact kE hK hs),
   (stp rfl fun a u hb hs hl hd K hK => by have s14 := gL hl 29; clear hd; go_simp; exact kE hK hs),
   (stp rfl fun a u hb hs hl hd K hK => by have s192 := gD hd 8; have s193 := gD hd 9; clear hd; go_simp; exact kE hK hs),
   (stp rfl fun a u hb hs hl hd K hK => by have s13 := gL hl 28; clear hd; go_simp; exact kE hK hs),
   (stp rfl fun a u hb hs hl hd K hK => by have s15 := gL hl 30; clear hd; go_simp; exact kE hK hs),
   (stp rfl fun a u hb hs hl hd K hK => by have s195 := gD hd 11; have s196 := gD hd 12; clear hd; go_simp; exact kE hK hs),
   (stp rfl fun a u hb hs hl hd K hK => by have s194 := gD hd 10; have s197 := gD hd 13; clear hd; go_simp; exact kE hK hs),
   (stp rfl fun a u hb hs hl hd K hK => by have s14 := gL hl 29; clear hd; go_simp; exact kE hK hs),
   (stp rfl fun a u hb hs hl hd K hK => by have s15 := gL hl 30; clear hd; go_simp; exact kE hK hs),
   (stp rfl fun a u hb hs hl hd K hK => by have s199 := gD hd 15; have s200 := gD hd 16; clear hd; go_simp; exact kE hK hs),
   (stp rfl fun a u hb hs hl hd K hK => by have s198 := gD hd 14; have s201 := gD hd 17; clear hd; go_simp; exact kE hK hs),
   (stp rfl fun a u hb hs hl hd K hK => by have s191 := gD hd 7; have s202 := gD hd 18; clear hd; go_simp; exact kE hK hs),
   trivial⟩ ?_
 clear hs hd zl
 intro a w hb hs hd zl hh
 replace zl := lH hh 19 zl
 clear hh
 replace hG := hG.after hb
 replace hS := hS.after hb
 replace hKt := hKt.after hb
 clear hb
 show wpList _ _ _ [_] _ _
 refine tail_op rfl (fun K hK => ?_)
 have q203 := gL zl 0
 go_simp
 clear q203
 refine hK _ _ (tP hs hd zl ?_)
 clear hK K hs hd zl
 intro a hs hd zl
 refine wp_seq ?_
 refine fl2 [.eq 204 _] 1 hs hd zl
  ⟨(stp rfl fun a u hb hs hl hd K hK => by have s19 := gL hl 36; clear hd; go_simp; exact kE hK hs),
   trivial⟩ ?_
 clear hs hd zl
 intro a w hb hs hd zl hh
 replace zl := lH hh 0 zl
 clear hh
 replace hG := hG.after hb
 replace hS := hS.after hb
 replace hKt := hKt.after hb
 clear hb
 show wpList _ _ _ [_] _ _
 refine tail_op rfl (fun K hK => ?_)
 have q204 := gL zl 0
 go_simp
 clear q204
 refine hK _ _ ?_
 clear hK K
 obtain ⟨s204, s28, -, s27, -, -, -, -, -, -, -, -, -, -, -, -, -, -, -, -, s0, s1, s4, s5, s6, s7, s8, s9, s10, s11, s12, s13, s14, s15, s16, s17, s18, s19, s20, s80, -⟩ := zl
 refine act_put (d := 20) _ hs hd (by decide) [(0, _), (1, _), (4, _), (5, _), (6, _), (7, _), (8, _), (9, _), (10, _), (11, _), (12, _), (13, _), (14, _), (15, _), (16, _), (17, _), (18, _), (19, _), (27, _), (28, _), (80, _), (204, _)] ⟨s0, s1, s4, s5, s6, s7, s8, s9, s10, s11, s12, s13, s14, s15, s16, s17, s18, s19, s27, s28, s80, s204, trivial⟩ rfl ?_
 clear hs hd s0 s1 s4 s5 s6 s7 s8 s9 s10 s11 s12 s13 s14 s15 s16 s17 s18 s19 s20 s27 s28 s80 s204
 intro a hs hd zl
 refine wp_seq ?_
 refine fl2 [.eq 205 _] 1 hs hd zl
  ⟨(stp rfl fun a u hb hs hl hd K hK => by have s18 := gL hl 17; clear hd; go_simp; exact kE hK hs),
   trivial⟩ ?_
 clear hs hd zl
 intro a w hb hs hd zl hh
 replace zl := lH hh 0 zl
 clear hh
 replace hG := hG.after hb
 replace hS := hS.after hb
 replace hKt := hKt.after hb
 clear hb
 show wpList _ _ _ [_] _ _
 refine tail_op rfl (fun K hK => ?_)
 have q205 := gL zl 0
 go_simp
 clear q205
 refine hK _ _ ?_
 clear hK K
 obtain ⟨s205, s20, s0, s1, s4, s5, s6, s7, s8, s9, s10, s11, s12, s13, s14, s15, s16, s17, s18, s19, s27, s28, s80, -, -⟩ := zl
 refine act_put (d := 19) _ hs hd (by decide) [(0, _), (1, _), (4, _), (5, _), (6, _), (7, _), (8, _), (9, _), (10, _), (11, _), (12, _), (13, _), (14, _), (15, _), (16, _), (17, _), (18, _), (20, _), (27, _), (28, _), (80, _), (205, _)] ⟨s0, s1, s4, s5, s6, s7, s8, s9, s10, s11, s12, s13, s14, s15, s16, s17, s18, s20, s27, s28, s80, s205, trivial⟩ rfl ?_
 clear hs hd s0 s1 s4 s5 s6 s7 s8 s9 s10 s11 s12 s13 s14 s15 s16 s17 s18 s19 s20 s27 s28 s80 s205
 intro a hs hd zl
 refine wp_seq ?_
 refine fl2 [.eq 206 _] 1 hs hd zl
  ⟨(stp rfl fun a u hb hs hl hd K hK => by have s17 := gL hl 16; clear hd; go_simp; exact kE hK hs),
   trivial⟩ ?_
 clear hs hd zl
 intro a w hb hs hd zl hh
 replace zl := lH hh 0 zl
 clear hh
 replace hG := hG.after hb
 replace hS := hS.after hb
 replace hKt := hKt.after hb
 clear hb
 show wpList _ _ _ [_] _ _
 refine tail_op rfl (fun K hK => ?_)
 have q206 := gL zl 0
 go_simp
 clear q206
 refine hK _ _ ?_
 clear hK K
 obtain ⟨s206, s19, s0, s1, s4, s5, s6, s7, s8, s9, s10, s11, s12, s13, s14, s15, s16, s17, s18, s20, s27, s28, s80, -, -⟩ := zl
 refine act_put (d := 18) _ hs hd (by decide) [(0, _), (1, _), (4, _), (5, _), (6, _), (7, _), (8, _), (9, _), (10, _), (11, _), (12, _), (13, _), (14, _), (15, _), (16, _), (17, _), (19, _), (20, _), (27, _), (28, _), (80, _), (206, _)] ⟨s0, s1, s4, s5, s6, s7, s8, s9, s10, s11, s12, s13, s14, s15, s16, s17, s19, s20, s27, s28, s80, s206, trivial⟩ rfl ?_
 clear hs hd s0 s1 s4 s5 s6 s7 s8 s9 s10 s11 s12 s13 s14 s15 s16 s17 s18 s19 s20 s27 s28 s80 s206
 intro a hs hd zl
 refine wp_seq ?_
 refine fl2 [.eq 207 _, .eq 208 _, .eq 209 (.int .u32 (add32 R.d (tOne Kk Wk R)))] 3 hs hd zl
  ⟨(stp rfl fun a u hb hs hl hd K hK => by have s16 := gL hl 15; clear hd; go_simp; exact kE hK hs),
   (stp rfl fun a u hb hs hl hd K hK => by have s27 := gL hl 19; clear hd; go_simp; exact kE hK hs),
   (stp rfl fun a u hb hs hl hd K hK => by have s207 := gD hd 0; have s208 := gD hd 1; clear hd; go_simp; exact kE hK hs),
   trivial⟩ ?_
 clear hs hd zl
 intro a w hb hs hd zl hh
 replace zl := lH hh 2 zl
 clear hh
 replace hG := hG.after hb
 replace hS := hS.after hb
 replace hKt := hKt.after hb
 clear hb
 show wpList _ _ _ [_] _ _
 refine tail_op rfl (fun K hK => ?_)
 have q209 := gL zl 0
 go_simp
 clear q209
 refine hK _ _ ?_
 clear hK K
 obtain ⟨s209, s18, s0, s1, s4, s5, s6, s7, s8, s9, s10, s11, s12, s13, s14, s15, s16, s17, s19, s20, s27, s28, s80, -, -⟩ := zl
 refine act_put (d := 17) _ hs hd (by decide) [(0, _), (1, _), (4, _), (5, _), (6, _), (7, _), (8, _), (9, _), (10, _), (11, _), (12, _), (13, _), (14, _), (15, _), (16, _), (18, _), (19, _), (20, _), (27, _), (28, _), (80, _), (209, _)] ⟨s0, s1, s4, s5, s6, s7, s8, s9, s10, s11, s12, s13, s14, s15, s16, s18, s19, s20, s27, s28, s80, s209, trivial⟩ rfl ?_
 clear hs hd s0 s1 s4 s5 s6 s7 s8 s9 s10 s11 s12 s13 s14 s15 s16 s17 s18 s19 s20 s27 s28 s80 s209
 intro a hs hd zl
 refine wp_seq ?_
 refine fl2 [.eq 210 _] 1 hs hd zl
  ⟨(stp rfl fun a u hb hs hl hd K hK => by have s15 := gL hl 14; clear hd; go_simp; exact kE hK hs),
   trivial⟩ ?_
 clear hs hd zl
 intro a w hb hs hd zl hh
 replace zl := lH hh 0 zl
 clear hh
 replace hG := hG.after hb
 replace hS := hS.after hb
 replace hKt := hKt.after hb
 clear hb
 show wpList _ _ _ [_] _ _
 refine tail_op rfl (fun K hK => ?_)
 have q210 := gL zl 0
 go_simp
 clear q210
 refine hK _ _ ?_
 clear hK K
 obtain ⟨s210, s17, s0, s1, s4, s5, s6, s7, s8, s9, s10, s11, s12, s13, s14, s15, s16, s18, s19, s20, s27, s28, s80, -, -⟩ := zl
 refine act_put (d := 16) _ hs hd (by decide) [(0, _), (1, _), (4, _), (5, _), (6, _), (7, _), (8, _), (9, _), (10, _), (11, _), (12, _), (13, _), (14, _), (15, _), (17, _), (18, _), (19, _), (20, _), (27, _), (28, _), (80, _), (210, _)] ⟨s0, s1, s4, s5, s6, s7, s8, s9, s10, s11, s12, s13, s14, s15, s17, s18, s19, s20, s27, s28, s80, s210, trivial⟩ rfl ?_
 clear hs hd s0 s1 s4 s5 s6 s7 s8 s9 s10 s11 s12 s13 s14 s15 s16 s17 s18 s19 s20 s27 s28 s80 s210
 intro a hs hd zl
 refine wp_seq ?_
 refine fl2 [.eq 211 _] 1 hs hd zl
  ⟨(stp rfl fun a u hb hs hl hd K hK => by have s14 := gL hl 13; clear hd; go_simp; exact kE hK hs),
   trivial⟩ ?_
 clear hs hd zl
 intro a w hb hs hd zl hh
 replace zl := lH hh 0 zl
 clear hh
 replace hG := hG.after hb
 replace hS := hS.after hb
 replace hKt := hKt.after hb
 clear hb
 show wpList _ _ _ [_] _ _
 refine tail_op rfl (fun K hK => ?_)
 have q211 := gL zl 0
 go_simp
 clear q211
 refine hK _ _ ?_
 clear hK K
 obtain ⟨s211, s16, s0, s1, s4, s5, s6, s7, s8, s9, s10, s11, s12, s13, s14, s15, s17, s18, s19, s20, s27, s28, s80, -, -⟩ := zl
 refine act_put (d := 15) _ hs hd (by decide) [(0, _), (1, _), (4, _), (5, _), (6, _), (7, _), (8, _), (9, _), (10, _), (11, _), (12, _), (13, _), (14, _), (16, _), (17, _), (18, _), (19, _), (20, _), (27, _), (28, _), (80, _), (211, _)] ⟨s0, s1, s4, s5, s6, s7, s8, s9, s10, s11, s12, s13, s14, s16, s17, s18, s19, s20, s27, s28, s80, s211, trivial⟩ rfl ?_
 clear hs hd s0 s1 s4 s5 s6 s7 s8 s9 s10 s11 s12 s13 s14 s15 s16 s17 s18 s19 s20 s27 s28 s80 s211
 intro a hs hd zl
 refine wp_seq ?_
 refine fl2 [.eq 212 _] 1 hs hd zl
  ⟨(stp rfl fun a u hb hs hl hd K hK => by have s13 := gL hl 12; clear hd; go_simp; exact kE hK hs),
   trivial⟩ ?_
 clear hs hd zl
 intro a w hb hs hd zl hh
 replace zl := lH hh 0 zl
 clear hh
 replace hG := hG.after hb
 replace hS := hS.after hb
 replace hKt := hKt.after hb
 clear hb
 show wpList _ _ _ [_] _ _
 refine tail_op rfl (fun K hK => ?_)
 have q212 := gL zl 0
 go_simp
 clear q212
 refine hK _ _ ?_
 clear hK K
 obtain ⟨s212, s15, s0, s1, s4, s5, s6, s7, s8, s9, s10, s11, s12, s13, s14, s16, s17, s18, s19, s20, s27, s28, s80, -, -⟩ := zl
 refine act_put (d := 14) _ hs hd (by decide) [(0, _), (1, _), (4, _), (5, _), (6, _), (7, _), (8, _), (9, _), (10, _), (11, _), (12, _), (13, _), (15, _), (16, _), (17, _), (18, _), (19, _), (20, _), (27, _), (28, _), (80, _), (212, _)] ⟨s0, s1, s4, s5, s6, s7, s8, s9, s10, s11, s12, s13, s15, s16, s17, s18, s19, s20, s27, s28, s80, s212, trivial⟩ rfl ?_
 clear hs hd s0 s1 s4 s5 s6 s7 s8 s9 s10 s11 s12 s13 s14 s15 s16 s17 s18 s19 s20 s27 s28 s80 s212
 intro a hs hd zl
 refine fl2 [.eq 213 _, .eq 214 _, .eq 215 (.int .u32 (add32 (tOne Kk Wk R) (tTwo R)))] 3 hs hd zl
  ⟨(stp rfl fun a u hb hs hl hd K hK => by have s27 := gL hl 19; clear hd; go_simp; exact kE hK hs),
   (stp rfl fun a u hb hs hl hd K hK => by have s28 := gL hl 20; clear hd; go_simp; exact kE hK hs),
   (stp rfl fun a u hb hs hl hd K hK => by have s213 := gD hd 0; have s214 := gD hd 1; clear hd; go_simp; exact kE hK hs),
   trivial⟩ ?_
 clear hs hd zl
 intro a w hb hs hd zl hh
 replace zl := lH hh 2 zl
 clear hh
 replace hG := hG.after hb
 replace hS := hS.after hb
 replace hKt := hKt.after hb
 clear hb
 show wpList _ _ _ [_] _ _
 refine tail_op rfl (fun K hK => ?_)
 have q215 := gL zl 0
 go_simp
 clear q215
 refine hK _ _ ?_
 clear hK K
 obtain ⟨s215, s14, s0, s1, s4, s5, s6, s7, s8, s9, s10, s11, s12, s13, s15, s16, s17, s18, s19, s20, -, -, s80, -, -⟩ := zl
 refine act_put (d := 13) _ hs hd (by decide) [(0, _), (1, _), (4, _), (5, _), (6, _), (7, _), (8, _), (9, _), (10, _), (11, _), (12, _), (14, _), (15, _), (16, _), (17, _), (18, _), (19, _), (20, _), (80, _), (215, _)] ⟨s0, s1, s4, s5, s6, s7, s8, s9, s10, s11, s12, s14, s15, s16, s17, s18, s19, s20, s80, s215, trivial⟩ rfl ?_
 clear hs hd s0 s1 s4 s5 s6 s7 s8 s9 s10 s11 s12 s13 s14 s15 s16 s17 s18 s19 s20 s80 s215
 intro a hs hd zl
 have e80 : IntKind.i64.wrap ((k : Int) + 1) = ((k + 1 : Nat) : Int) := by rw [IntWalk.i64_in _ (by omega)]; omega
 refine fl2 [.eq 216 _] 1 hs hd zl
  ⟨(stp rfl fun a u hb hs hl hd K hK => by have s80 := gL hl 19; clear hd; go_simp; exact kE hK hs),
   trivial⟩ ?_
 clear hs hd zl
 intro a w hb hs hd zl hh
 replace zl := lH hh 0 zl
 clear hh
 replace hG := hG.after hb
 replace hS := hS.after hb
 replace hKt := hKt.after hb
 clear hb
 show wpList _ _ _ [_] _ _
 refine tail_op rfl (fun K hK => ?_)
 have q216 := gL zl 0
 go_simp
 clear q216
 refine hK _ _ ?_
 clear hK K
 obtain ⟨s216, s13, s0, s1, s4, s5, s6, s7, s8, s9, s10, s11, s12, s14, s15, s16, s17, s18, s19, s20, s80, -, -⟩ := zl
 refine act_put (d := 80) _ hs hd (by decide) [(0, _), (1, _), (4, _), (5, _), (6, _), (7, _), (8, _), (9, _), (10, _), (11, _), (12, _), (13, _), (14, _), (15, _), (16, _), (17, _), (18, _), (19, _), (20, _), (216, _)] ⟨s0, s1, s4, s5, s6, s7, s8, s9, s10, s11, s12, s13, s14, s15, s16, s17, s18, s19, s20, s216, trivial⟩ rfl ?_
 clear hs hd s0 s1 s4 s5 s6 s7 s8 s9 s10 s11 s12 s13 s14 s15 s16 s17 s18 s19 s20 s80 s216
 intro a hs hd zl
 clear e80
 obtain rfl := hKk.out
 obtain rfl := hWk.out
 obtain ⟨s80, s0, s1, s4, s5, s6, s7, s8, s9, s10, s11, s12, s13, s14, s15, s16, s17, s18, s19, s20, -, -⟩ := zl
 exact hQ a w hs hd ⟨s0, s1, s4, s5, s6, s7, s8, s9, s10, s11, s12, s13, s14, s15, s16, s17, s18, s19, s20, s80, trivial⟩ hG hS

set_option maxHeartbeats 4000000 in
set_option maxRecDepth 100000 in
/-- The 64 rounds. -/
theorem bg_inner {Q : Exit → Act → World → Prop} {x0 x5 x6 x7 x8 x9 x10 x11 x12 : Value} {b o p n' c' B : Nat} {l : List Int} {S : ShaSt} {w0 : World} (a : Act) (w : World) (hs : SzIs a 283) (hd : DfNil a)
  (s0 : a.tmps.getD 0 undef = x0) (s1 : a.tmps.getD 1 undef = .slice (some ⟨b, o, none⟩) n' c') (s4 : a.tmps.getD 4 undef = .pointer (some ⟨B, 0, none⟩)) (s5 : a.tmps.getD 5 undef = x5) (s6 : a.tmps.getD 6 undef = x6) (s7 : a.tmps.getD 7 undef = x7) (s8 : a.tmps.getD 8 undef = x8) (s9 : a.tmps.getD 9 undef = x9) (s10 : a.tmps.getD 10 undef = x10) (s11 : a.tmps.getD 11 undef = x11) (s12 : a.tmps.getD 12 undef = x12) (s13 : a.tmps.getD 13 undef = .int .u32 S.a) (s14 : a.tmps.getD 14 undef = .int .u32 S.b) (s15 : a.tmps.getD 15 undef = .int .u32 S.c) (s16 : a.tmps.getD 16 undef = .int .u32 S.d) (s17 : a.tmps.getD 17 undef = .int .u32 S.e) (s18 : a.tmps.getD 18 undef = .int .u32 S.f) (s19 : a.tmps.getD 19 undef = .int .u32 S.g) (s20 : a.tmps.getD 20 undef = .int .u32 S.h) (s80 : a.tmps.getD 80 undef = .int .i64 0)
  (hn : 64 ≤ n') (hn' : n' ≤ 1000000000000) (hG : GB w0 w B) (hS : Sched w B 63 l p 0) (hKt : KTab w0 0) (hB0 : B ≠ 0) (hP : BytesAt w0 b o l p 64) (hbB : b ≠ B) (hl8 : Bytes l)
  (hQ : ∀ (a : Act) (w : World) (R : ShaSt), Is R (shaRds l p S 64) → SzIs a 283 → DfNil a → LiveAll [(0, x0), (1, .slice (some ⟨b, o, none⟩) n' c'), (4, .pointer (some ⟨B, 0, none⟩)), (5, x5), (6, x6), (7, x7), (8, x8), (9, x9), (10, x10), (11, x11), (12, x12), (13, .int .u32 R.a), (14, .int .u32 R.b), (15, .int .u32 R.c), (16, .int .u32 R.d), (17, .int .u32 R.e), (18, .int .u32 R.f), (19, .int .u32 R.g), (20, .int .u32 R.h)] a → GB w0 w B → Sched w B 63 l p 64 → Q (.exit 2) a w) :
  (Code.loop bgBody).wp Tryd.prog Q a w := by
 refine wp_loop (fun a w => ∃ k : Nat, ∃ R : ShaSt, k ≤ 64 ∧ Is R (shaRds l p S k) ∧ SzIs a 283 ∧ DfNil a ∧ LiveAll [(0, x0), (1, .slice (some ⟨b, o, none⟩) n' c'), (4, .pointer (some ⟨B, 0, none⟩)), (5, x5), (6, x6), (7, x7), (8, x8), (9, x9), (10, x10), (11, x11), (12, x12), (13, .int .u32 R.a), (14, .int .u32 R.b), (15, .int .u32 R.c), (16, .int .u32 R.d), (17, .int .u32 R.e), (18, .int .u32 R.f), (19, .int .u32 R.g), (20, .int .u32 R.h), (80, .int .i64 k)] a ∧ GB w0 w B ∧ Sched w B 63 l p k)
  (fun a _ => 64 - (intOf (a.tmps.getD 80 undef)).toNat) ⟨0, S, by omega, rfl, hs, hd, ⟨s0, s1, s4, s5, s6, s7, s8, s9, s10, s11, s12, s13, s14, s15, s16, s17, s18, s19, s20, s80, trivial⟩, hG, hS⟩ ?_
 clear hs hd s0 s1 s4 s5 s6 s7 s8 s9 s10 s11 s12 s13 s14 s15 s16 s17 s18 s19 s20 s80 hG hS a w
 rintro a w ⟨k, R, hk, hR, hs, hd, ⟨s0, s1, s4, s5, s6, s7, s8, s9, s10, s11, s12, s13, s14, s15, s16, s17, s18, s19, s20, s80, -⟩, hG, hS⟩
 have hm : (intOf (a.tmps.getD 80 undef)).toNat = k := by rw [s80]; simp [intOf]
 by_cases hk64 : k < 64
 ·have hend : ∀ (a' : Act) (w' : World), SzIs a' 283 → DfNil a' → LiveAll [(0, x0), (1, .slice (some ⟨b, o, none⟩) n' c'), (4, .pointer (some ⟨B, 0, none⟩)), (5, x5), (6, x6), (7, x7), (8, x8), (9, x9), (10, x10), (11, x11), (12, x12), (13, .int .u32 (shaRnd (kTab.getD k 0) (wd l p k) R).a), (14, .int .u32 (shaRnd (kTab.getD k 0) (wd l p k) R).b), (15, .int .u32 (shaRnd (kTab.getD k 0) (wd l p k) R).c), (16, .int .u32 (shaRnd (kTab.getD k 0) (wd l p k) R).d), (17, .int .u32 (shaRnd (kTab.getD k 0) (wd l p k) R).e), (18, .int .u32 (shaRnd (kTab.getD k 0) (wd l p k) R).f), (19, .int .u32 (shaRnd (kTab.getD k 0) (wd l p k) R).g), (20, .int .u32 (shaRnd (kTab.getD k 0) (wd l p k) R).h), (80, .int .i64 ((k + 1 : Nat) : Int))] a' → GB w0 w' B → Sched w' B 63 l p (k + 1) →
    (∃ k : Nat, ∃ R : ShaSt, k ≤ 64 ∧ Is R (shaRds l p S k) ∧ SzIs a' 283 ∧ DfNil a' ∧ LiveAll [(0, x0), (1, .slice (some ⟨b, o, none⟩) n' c'), (4, .pointer (some ⟨B, 0, none⟩)), (5, x5), (6, x6), (7, x7), (8, x8), (9, x9), (10, x10), (11, x11), (12, x12), (13, .int .u32 R.a), (14, .int .u32 R.b), (15, .int .u32 R.c), (16, .int .u32 R.d), (17, .int .u32 R.e), (18, .int .u32 R.f), (19, .int .u32 R.g), (20, .int .u32 R.h), (80, .int .i64 k)] a' ∧ GB w0 w' B ∧ Sched w' B 63 l p k) ∧ 64 - (intOf (a'.tmps.getD 80 undef)).toNat < 64 - (intOf (a.tmps.getD 80 undef)).toNat := by
   intro a' w' h1 h2 h3 h4 h5
   have h80 : a'.tmps.getD 80 undef = .int .i64 ((k + 1 : Nat) : Int) := h3.2.2.2.2.2.2.2.2.2.2.2.2.2.2.2.2.2.2.2.1
   refine ⟨⟨k + 1, shaRnd (kTab.getD k 0) (wd l p k) R, by omega, ?_, h1, h2, h3, h4, h5⟩, ?_⟩
   ·unfold Is; rw [hR.out]; rfl
   ·rw [h80, hm]; simp [intOf]; omega
  by_cases hk16 : k < 16
  ·exact bg_lo (A := none) a w hs hd s0 s1 s4 s5 s6 s7 s8 s9 s10 s11 s12 s13 s14 s15 s16 s17 s18 s19 s20 s80 hk64 hk16 hn hn' (hP.gb hG hbB) hbB hl8 hG hS (hKt.gb hG (fun e => hB0 e.symm)) hB0 hend
  ·exact bg_hi (A := none) a w hs hd s0 s1 s4 s5 s6 s7 s8 s9 s10 s11 s12 s13 s14 s15 s16 s17 s18 s19 s20 s80 hk64 (by omega) hl8 hG hS (hKt.gb hG (fun e => hB0 e.symm)) hB0 hend
 ·obtain rfl : k = 64 := by omega
  clear hm
  conv => arg 2; whnf
  refine wp_seq ?_
  refine wp_region_list ?_
  show wpList _ _ _ [_] _ _
  refine tail_op rfl (fun K hK => ?_)
  have q80 := gd s80
  go_simp
  clear q80
  refine hK _ _ ?_
  clear hK K
  refine act_put (d := 81) _ hs hd (by decide) [(0, _), (1, _), (4, _), (5, _), (6, _), (7, _), (8, _), (9, _), (10, _), (11, _), (12, _), (13, _), (14, _), (15, _), (16, _), (17, _), (18, _), (19, _), (20, _), (80, _)] ⟨s0, s1, s4, s5, s6, s7, s8, s9, s10, s11, s12, s13, s14, s15, s16, s17, s18, s19, s20, s80, trivial⟩ rfl ?_
  clear hs hd s0 s1 s4 s5 s6 s7 s8 s9 s10 s11 s12 s13 s14 s15 s16 s17 s18 s19 s20 s80
  intro a hs hd zl
  refine wp_seq ?_
  refine wp_cond_false (vL zl 0) ?_
  refine wp_exit ?_
  obtain ⟨s81, s0, s1, s4, s5, s6, s7, s8, s9, s10, s11, s12, s13, s14, s15, s16, s17, s18, s19, s20, s80, -⟩ := zl
  exact hQ a w R hR hs hd ⟨s0, s1, s4, s5, s6, s7, s8, s9, s10, s11, s12, s13, s14, s15, s16, s17, s18, s19, s20, trivial⟩ hG hS
end Go.Proofs.YtcmllcmcbamlbaaDoor
