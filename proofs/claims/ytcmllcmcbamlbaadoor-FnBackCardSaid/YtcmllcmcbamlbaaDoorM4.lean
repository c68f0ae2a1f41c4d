/- SHA-256 of the package: blockGeneric, whole. (Printed by gen_block.py.) Digests of the package: what they have taken up; bytes copied into one. Digests of the package: their methods. (Printed by gen_dig.py.) Digests of the package: Write. (Printed by gen_dig.py.) -/
import Derived.Test.YtcmllcmcbamlbaaDoorM3
import Derived.Test.YtcmllcmcbamlbaaDoorM2
import Derived.Laws.CopyOwn
set_option linter.unusedVariables false
set_option linter.unusedSimpArgs false
namespace Go.Proofs.YtcmllcmcbamlbaaDoor
open Go.RowKit

noncomputable def bgOuter : Code := ((Tryd.f81.body.bind (loopIn 0)).getD .skip)
set_option maxHeartbeats 4000000 in
set_option maxRecDepth 100000 in
/-- One block. -/
theorem bg_block {Q : Exit → Act → World → Prop} {b o g p n' c' B : Nat} {l : List Int} {S : ShaSt} {w0 : World} (a : Act) (w : World) (hs : SzIs a 283) (hd : DfNil a)
  (s0 : a.tmps.getD 0 undef = .pointer (some ⟨g, 0, none⟩)) (s1 : a.tmps.getD 1 undef = .slice (some ⟨b, o, none⟩) n' c') (s4 : a.tmps.getD 4 undef = .pointer (some ⟨B, 0, none⟩)) (s5 : a.tmps.getD 5 undef = .int .u32 S.a) (s6 : a.tmps.getD 6 undef = .int .u32 S.b) (s7 : a.tmps.getD 7 undef = .int .u32 S.c) (s8 : a.tmps.getD 8 undef = .int .u32 S.d) (s9 : a.tmps.getD 9 undef = .int .u32 S.e) (s10 : a.tmps.getD 10 undef = .int .u32 S.f) (s11 : a.tmps.getD 11 undef = .int .u32 S.g) (s12 : a.tmps.getD 12 undef = .int .u32 S.h)
  (hn : 64 ≤ n') (hn' : n' ≤ 1000000000000) (hc : n' ≤ c') (hG : GB w0 w B) (hS : Sched w B 63 l p 0) (hKt : KTab w0 0) (hB0 : B ≠ 0) (hP : BytesAt w0 b o l p 64) (hbB : b ≠ B) (hl8 : Bytes l)
  (hQ : ∀ (a : Act) (w : World) (P : Option Addr), (n' - 64 = 0 ∨ P = some ⟨b, o + 64, none⟩) → SzIs a 283 → DfNil a → LiveAll [(0, .pointer (some ⟨g, 0, none⟩)), (1, .slice P (n' - 64) (c' - 64)), (4, .pointer (some ⟨B, 0, none⟩)), (5, .int .u32 (shaBlk l p S).a), (6, .int .u32 (shaBlk l p S).b), (7, .int .u32 (shaBlk l p S).c), (8, .int .u32 (shaBlk l p S).d), (9, .int .u32 (shaBlk l p S).e), (10, .int .u32 (shaBlk l p S).f), (11, .int .u32 (shaBlk l p S).g), (12, .int .u32 (shaBlk l p S).h)] a → GB w0 w B → Sched w B 63 l p 64 → Q .normal a w) :
  bgOuter.wp Tryd.prog Q a w := by
 conv => arg 2; whnf
 refine wp_seq ?_
 refine wp_seq ?_
 have hdn : decide ((64 : Int) ≤ (n' : Int)) = true := by simp; omega
 refine fl2 (F := [(0, _), (1, _), (4, _), (5, _), (6, _), (7, _), (8, _), (9, _), (10, _), (11, _), (12, _)]) [.eq 69 _, .eq 70 _] 2 hs hd ⟨s0, s1, s4, s5, s6, s7, s8, s9, s10, s11, s12, trivial⟩
  ⟨(stp rfl fun a u hb hs hl hd K hK => by have s1 := gL hl 1; clear hd; go_simp; exact kE hK hs),
   (stp rfl fun a u hb hs hl hd K hK => by have s69 := gD hd 0; clear hd; go_simp; exact kE hK hs),
   trivial⟩ ?_
 clear hs hd s0 s1 s4 s5 s6 s7 s8 s9 s10 s11 s12
 intro a w hb hs hd zl hh
 replace zl := lH hh 1 zl
 clear hh
 replace hG := hG.after hb
 replace hS := hS.after hb
 clear hb
 show wpList _ _ _ [_] _ _
 refine tail_op rfl (fun K hK => ?_)
 have q70 := gL zl 0
 go_simp
 clear q70
 refine hK _ _ (tP hs hd zl ?_)
 clear hK K hs hd zl
 intro a hs hd zl
 clear hdn
 refine wp_cond_true (vL zl 0) ?_
 refine wp_skip ?_
 refine wp_block ?_
 refine wp_seq ?_
 refine fl2 [.eq 72 _, .eq 73 _, .eq 74 _, .eq 75 _, .eq 76 _, .eq 77 _, .eq 78 _, .eq 79 _, .eq 13 _, .eq 14 _, .eq 15 _, .eq 16 _, .eq 17 _, .eq 18 _, .eq 19 _] 15 hs hd zl
  ⟨(stp rfl fun a u hb hs hl hd K hK => by have s5 := gL hl 5; clear hd; go_simp; exact kE hK hs),
   (stp rfl fun a u hb hs hl hd K hK => by have s6 := gL hl 6; clear hd; go_simp; exact kE hK hs),
   (stp rfl fun a u hb hs hl hd K hK => by have s7 := gL hl 7; clear hd; go_simp; exact kE hK hs),
   (stp rfl fun a u hb hs hl hd K hK => by have s8 := gL hl 8; clear hd; go_simp; exact kE hK hs),
   (stp rfl fun a u hb hs hl hd K hK => by have s9 := gL hl 9; clear hd; go_simp; exact kE hK hs),
   (stp rfl fun a u hb hs hl hd K hK => by have s10 := gL hl 10; clear hd; go_simp; exact kE hK hs),
   (stp rfl fun a u hb hs hl hd K hK => by have s11 := gL hl 11; clear hd; go_simp; exact kE hK hs),
   (stp rfl fun a u hb hs hl hd K hK => by have s12 := gL hl 12; clear hd; go_simp; exact kE hK hs),
   (stp rfl fun a u hb hs hl hd K hK => by have s72 := gD hd 0; clear hd; go_simp; exact kE hK hs),
   (stp rfl fun a u hb hs hl hd K hK => by have s73 := gD hd 1; clear hd; go_simp; exact kE hK hs),
   (stp rfl fun a u hb hs hl hd K hK => by have s74 := gD hd 2; clear hd; go_simp; exact kE hK hs),
   (stp rfl fun a u hb hs hl hd K hK => by have s75 := gD hd 3; clear hd; go_simp; exact kE hK hs),
   (stp rfl fun a u hb hs hl hd K hK => by have s76 := gD hd 4; clear hd; go_simp; exact kE hK hs),
   (stp rfl fun a u hb hs hl hd K hK => by have s77 := gD hd 5; clear hd; go_simp; exact kE hK hs),
   (stp rfl fun a u hb hs hl hd K hK => by have s78 := gD hd 6; clear hd; go_simp; exact kE hK hs),
   trivial⟩ ?_
 clear hs hd zl
 intro a w hb hs hd zl hh
 replace zl := lH hh 8 zl
 replace zl := lH hh 9 zl
 replace zl := lH hh 10 zl
 replace zl := lH hh 11 zl
 replace zl := lH hh 12 zl
 replace zl := lH hh 13 zl
 replace zl := lH hh 14 zl
 replace zl := lH hh 7 zl
 clear hh
 replace hG := hG.after hb
 replace hS := hS.after hb
 clear hb
 show wpList _ _ _ [_] _ _
 refine tail_op rfl (fun K hK => ?_)
 have q79 := gL zl 0
 go_simp
 clear q79
 refine hK _ _ (tP hs hd zl ?_)
 clear hK K hs hd zl
 intro a hs hd zl
 refine wp_seq ?_
 refine wp_seq ?_
 refine wp_region_list ?_
 show wpList _ _ _ [_] _ _
 refine tail_op rfl (fun K hK => ?_)
 go_simp
 refine hK _ _ (tP hs hd zl ?_)
 clear hK K hs hd zl
 intro a hs hd zl
 refine wp_block ?_
 obtain ⟨s80, s20, -, s19, s18, s17, s16, s15, s14, s13, -, -, s0, s1, s4, s5, s6, s7, s8, s9, s10, s11, s12, -⟩ := zl
 refine bg_inner a w hs hd s0 s1 s4 s5 s6 s7 s8 s9 s10 s11 s12 s13 s14 s15 s16 s17 s18 s19 s20 s80 hn hn' hG hS hKt hB0 hP hbB hl8 ?_
 clear hs hd hG hS s0 s1 s4 s5 s6 s7 s8 s9 s10 s11 s12 s13 s14 s15 s16 s17 s18 s19 s20 s80
 rintro a w R hR hs hd ⟨s0, s1, s4, s5, s6, s7, s8, s9, s10, s11, s12, s13, s14, s15, s16, s17, s18, s19, s20, -⟩ hG hS
 refine inBlock_exit ?_
 refine wp_seq ?_
 refine fl2 (F := [(0, _), (1, _), (4, _), (5, _), (6, _), (7, _), (8, _), (9, _), (10, _), (11, _), (12, _), (13, _), (14, _), (15, _), (16, _), (17, _), (18, _), (19, _), (20, _)]) [.eq 217 _, .eq 218 _, .eq 219 (.int .u32 (add32 S.a R.a))] 3 hs hd ⟨s0, s1, s4, s5, s6, s7, s8, s9, s10, s11, s12, s13, s14, s15, s16, s17, s18, s19, s20, trivial⟩
  ⟨(stp rfl fun a u hb hs hl hd K hK => by have s5 := gL hl 3; clear hd; go_simp; exact kE hK hs),
   (stp rfl fun a u hb hs hl hd K hK => by have s13 := gL hl 11; clear hd; go_simp; exact kE hK hs),
   (stp rfl fun a u hb hs hl hd K hK => by have s217 := gD hd 0; have s218 := gD hd 1; clear hd; go_simp; exact kE hK hs),
   trivial⟩ ?_
 clear hs hd s0 s1 s4 s5 s6 s7 s8 s9 s10 s11 s12 s13 s14 s15 s16 s17 s18 s19 s20
 intro a w hb hs hd zl hh
 replace zl := lH hh 2 zl
 clear hh
 replace hG := hG.after hb
 replace hS := hS.after hb
 clear hb
 show wpList _ _ _ [_] _ _
 refine tail_op rfl (fun K hK => ?_)
 have q219 := gL zl 0
 go_simp
 clear q219
 refine hK _ _ ?_
 clear hK K
 obtain ⟨s219, s0, s1, s4, s5, s6, s7, s8, s9, s10, s11, s12, s13, s14, s15, s16, s17, s18, s19, s20, -⟩ := zl
 refine act_put (d := 5) _ hs hd (by decide) [(0, _), (1, _), (4, _), (6, _), (7, _), (8, _), (9, _), (10, _), (11, _), (12, _), (13, _), (14, _), (15, _), (16, _), (17, _), (18, _), (19, _), (20, _), (219, _)] ⟨s0, s1, s4, s6, s7, s8, s9, s10, s11, s12, s13, s14, s15, s16, s17, s18, s19, s20, s219, trivial⟩ rfl ?_
 clear hs hd s0 s1 s4 s5 s6 s7 s8 s9 s10 s11 s12 s13 s14 s15 s16 s17 s18 s19 s20 s219
 intro a hs hd zl
 refine wp_seq ?_
 refine fl2 [.eq 220 _, .eq 221 _, .eq 222 (.int .u32 (add32 S.b R.b))] 3 hs hd zl
  ⟨(stp rfl fun a u hb hs hl hd K hK => by have s6 := gL hl 4; clear hd; go_simp; exact kE hK hs),
   (stp rfl fun a u hb hs hl hd K hK => by have s14 := gL hl 12; clear hd; go_simp; exact kE hK hs),
   (stp rfl fun a u hb hs hl hd K hK => by have s220 := gD hd 0; have s221 := gD hd 1; clear hd; go_simp; exact kE hK hs),
   trivial⟩ ?_
 clear hs hd zl
 intro a w hb hs hd zl hh
 replace zl := lH hh 2 zl
 clear hh
 replace hG := hG.after hb
 replace hS := hS.after hb
 clear hb
 show wpList _ _ _ [_] _ _
 refine tail_op rfl (fun K hK => ?_)
 have q222 := gL zl 0
 go_simp
 clear q222
 refine hK _ _ ?_
 clear hK K
 obtain ⟨s222, s5, s0, s1, s4, s6, s7, s8, s9, s10, s11, s12, s13, s14, s15, s16, s17, s18, s19, s20, -, -⟩ := zl
 refine act_put (d := 6) _ hs hd (by decide) [(0, _), (1, _), (4, _), (5, _), (7, _), (8, _), (9, _), (10, _), (11, _), (12, _), (13, _), (14, _), (15, _), (16, _), (17, _), (18, _), (19, _), (20, _), (222, _)] ⟨s0, s1, s4, s5, s7, s8, s9, s10, s11, s12, s13, s14, s15, s16, s17, s18, s19, s20, s222, trivial⟩ rfl ?_
 clear hs hd s0 s1 s4 s5 s6 s7 s8 s9 s10 s11 s12 s13 s14 s15 s16 s17 s18 s19 s20 s222
 intro a hs hd zl
 refine wp_seq ?_
 refine fl2 [.eq 223 _, .eq 224 _, .eq 225 (.int .u32 (add32 S.c R.c))] 3 hs hd zl
  ⟨(stp rfl fun a u hb hs hl hd K hK => by have s7 := gL hl 5; clear hd; go_simp; exact kE hK hs),
   (stp rfl fun a u hb hs hl hd K hK => by have s15 := gL hl 13; clear hd; go_simp; exact kE hK hs),
   (stp rfl fun a u hb hs hl hd K hK => by have s223 := gD hd 0; have s224 := gD hd 1; clear hd; go_simp; exact kE hK hs),
   trivial⟩ ?_
 clear hs hd zl
 intro a w hb hs hd zl hh
 replace zl := lH hh 2 zl
 clear hh
 replace hG := hG.after hb
 replace hS := hS.after hb
 clear hb
 show wpList _ _ _ [_] _ _
 refine tail_op rfl (fun K hK => ?_)
 have q225 := gL zl 0
 go_simp
 clear q225
 refine hK _ _ ?_
 clear hK K
 obtain ⟨s225, s6, s0, s1, s4, s5, s7, s8, s9, s10, s11, s12, s13, s14, s15, s16, s17, s18, s19, s20, -, -⟩ := zl
 refine act_put (d := 7) _ hs hd (by decide) [(0, _), (1, _), (4, _), (5, _), (6, _), (8, _), (9, _), (10, _), (11, _), (12, _), (13, _), (14, _), (15, _), (16, _), (17, _), (18, _), (19, _), (20, _), (225, _)] ⟨s0, s1, s4, s5, s6, s8, s9, s10, s11, s12, s13, s14, s15, s16, s17, s18, s19, s20, s225, trivial⟩ rfl ?_
 clear hs hd s0 s1 s4 s5 s6 s7 s8 s9 s10 s11 s12 s13 s14 s15 s16 s17 s18 s19 s20 s225
 intro a hs hd zl
 refine wp_seq ?_
 refine fl2 [.eq 226 _, .eq 227 _, .eq 228 (.int .u32 (add32 S.d R.d))] 3 hs hd zl
  ⟨(stp rfl fun a u hb hs hl hd K hK => by have s8 := gL hl 6; clear hd; go_simp; exact kE hK hs),
   (stp rfl fun a u hb hs hl hd K hK => by have s16 := gL hl 14; clear hd; go_simp; exact kE hK hs),
   (stp rfl fun a u hb hs hl hd K hK => by have s226 := gD hd 0; have s227 := gD hd 1; clear hd; go_simp; exact kE hK hs),
   trivial⟩ ?_
 clear hs hd zl
 intro a w hb hs hd zl hh
 replace zl := lH hh 2 zl
 clear hh
 replace hG := hG.after hb
 replace hS := hS.after hb
 clear hb
 show wpList _ _ _ [_] _ _
 refine tail_op rfl (fun K hK => ?_)
 have q228 := gL zl 0
 go_simp
 clear q228
 refine hK _ _ ?_
 clear hK K
 obtain ⟨s228, s7, s0, s1, s4, s5, s6, s8, s9, s10, s11, s12, s13, s14, s15, s16, s17, s18, s19, s20, -, -⟩ := zl
 refine act_put (d := 8) _ hs hd (by decide) [(0, _), (1, _), (4, _), (5, _), (6, _), (7, _), (9, _), (10, _), (11, _), (12, _), (13, _), (14, _), (15, _), (16, _), (17, _), (18, _), (19, _), (20, _), (228, _)] ⟨s0, s1, s4, s5, s6, s7, s9, s10, s11, s12, s13, s14, s15, s16, s17, s18, s19, s20, s228, trivial⟩ rfl ?_
 clear hs hd s0 s1 s4 s5 s6 s7 s8 s9 s10 s11 s12 s13 s14 s15 s16 s17 s18 s19 s20 s228
 intro a hs hd zl
 refine wp_seq ?_
 refine fl2 [.eq 229 _, .eq 230 _, .eq 231 (.int .u32 (add32 S.e R.e))] 3 hs hd zl
  ⟨(stp rfl fun a u hb hs hl hd K hK => by have s9 := gL hl 7; clear hd; go_simp; exact kE hK hs),
   (stp rfl fun a u hb hs hl hd K hK => by have s17 := gL hl 15; clear hd; go_simp; exact kE hK hs),
   (stp rfl fun a u hb hs hl hd K hK => by have s229 := gD hd 0; have s230 := gD hd 1; clear hd; go_simp; exact kE hK hs),
   trivial⟩ ?_
 clear hs hd zl
 intro a w hb hs hd zl hh
 replace zl := lH hh 2 zl
 clear hh
 replace hG := hG.after hb
 replace hS := hS.after hb
 clear hb
 show wpList _ _ _ [_] _ _
 refine tail_op rfl (fun K hK => ?_)
 have q231 := gL zl 0
 go_simp
 clear q231
 refine hK _ _ ?_
 clear hK K
 obtain ⟨s231, s8, s0, s1, s4, s5, s6, s7, s9, s10, s11, s12, s13, s14, s15, s16, s17, s18, s19, s20, -, -⟩ := zl
 refine act_put (d := 9) _ hs hd (by decide) [(0, _), (1, _), (4, _), (5, _), (6, _), (7, _), (8, _), (10, _), (11, _), (12, _), (13, _), (14, _), (15, _), (16, _), (17, _), (18, _), (19, _), (20, _), (231, _)] ⟨s0, s1, s4, s5, s6, s7, s8, s10, s11, s12, s13, s14, s15, s16, s17, s18, s19, s20, s231, trivial⟩ rfl ?_
 clear hs hd s0 s1 s4 s5 s6 s7 s8 s9 s10 s11 s12 s13 s14 s15 s16 s17 s18 s19 s20 s231
 intro a hs hd zl
 refine wp_seq ?_
 refine fl2 [.eq 232 _, .eq 233 _, .eq 234 (.int .u32 (add32 S.f R.f))] 3 hs hd zl
  ⟨(stp rfl fun a u hb hs hl hd K hK => by have s10 := gL hl 8; clear hd; go_simp; exact kE hK hs),
   (stp rfl fun a u hb hs hl hd K hK => by have s18 := gL hl 16; clear hd; go_simp; exact kE hK hs),
   (stp rfl fun a u hb hs hl hd K hK => by have s232 := gD hd 0; have s233 := gD hd 1; clear hd; go_simp; exact kE hK hs),
   trivial⟩ ?_
 clear hs hd zl
 intro a w hb hs hd zl hh
 replace zl := lH hh 2 zl
 clear hh
 replace hG := hG.after hb
 replace hS := hS.after hb
 clear hb
 show wpList _ _ _ [_] _ _
 refine tail_op rfl (fun K hK => ?_)
 have q234 := gL zl 0
 go_simp
 clear q234
 refine hK _ _ ?_
 clear hK K
 obtain ⟨s234, s9, s0, s1, s4, s5, s6, s7, s8, s10, s11, s12, s13, s14, s15, s16, s17, s18, s19, s20, -, -⟩ := zl
 refine act_put (d := 10) _ hs hd (by decide) [(0, _), (1, _), (4, _), (5, _), (6, _), (7, _), (8, _), (9, _), (11, _), (12, _), (13, _), (14, _), (15, _), (16, _), (17, _), (18, _), (19, _), (20, _), (234, _)] ⟨s0, s1, s4, s5, s6, s7, s8, s9, s11, s12, s13, s14, s15, s16, s17, s18, s19, s20, s234, trivial⟩ rfl ?_
 clear hs hd s0 s1 s4 s5 s6 s7 s8 s9 s10 s11 s12 s13 s14 s15 s16 s17 s18 s19 s20 s234
 intro a hs hd zl
 refine wp_seq ?_
 refine fl2 [.eq 235 _, .eq 236 _, .eq 237 (.int .u32 (add32 S.g R.g))] 3 hs hd zl
  ⟨(stp rfl fun a u hb hs hl hd K hK => by have s11 := gL hl 9; clear hd; go_simp; exact kE hK hs),
   (stp rfl fun a u hb hs hl hd K hK => by have s19 := gL hl 17; clear hd; go_simp; exact kE hK hs),
   (stp rfl fun a u hb hs hl hd K hK => by have s235 := gD hd 0; have s236 := gD hd 1; clear hd; go_simp; exact kE hK hs),
   trivial⟩ ?_
 clear hs hd zl
 intro a w hb hs hd zl hh
 replace zl := lH hh 2 zl
 clear hh
 replace hG := hG.after hb
 replace hS := hS.after hb
 clear hb
 show wpList _ _ _ [_] _ _
 refine tail_op rfl (fun K hK => ?_)
 have q237 := gL zl 0
 go_simp
 clear q237
 refine hK _ _ ?_
 clear hK K
 obtain ⟨s237, s10, s0, s1, s4, s5, s6, s7, s8, s9, s11, s12, s13, s14, s15, s16, s17, s18, s19, s20, -, -⟩ := zl
 refine act_put (d := 11) _ hs hd (by decide) [(0, _), (1, _), (4, _), (5, _), (6, _), (7, _), (8, _), (9, _), (10, _), (12, _), (13, _), (14, _), (15, _), (16, _), (17, _), (18, _), (19, _), (20, _), (237, _)] ⟨s0, s1, s4, s5, s6, s7, s8, s9, s10, s12, s13, s14, s15, s16, s17, s18, s19, s20, s237, trivial⟩ rfl ?_
 clear hs hd s0 s1 s4 s5 s6 s7 s8 s9 s10 s11 s12 s13 s14 s15 s16 s17 s18 s19 s20 s237
 intro a hs hd zl
 refine wp_seq ?_
 refine fl2 [.eq 238 _, .eq 239 _, .eq 240 (.int .u32 (add32 S.h R.h))] 3 hs hd zl
  ⟨(stp rfl fun a u hb hs hl hd K hK => by have s12 := gL hl 10; clear hd; go_simp; exact kE hK hs),
   (stp rfl fun a u hb hs hl hd K hK => by have s20 := gL hl 18; clear hd; go_simp; exact kE hK hs),
   (stp rfl fun a u hb hs hl hd K hK => by have s238 := gD hd 0; have s239 := gD hd 1; clear hd; go_simp; exact kE hK hs),
   trivial⟩ ?_
 clear hs hd zl
 intro a w hb hs hd zl hh
 replace zl := lH hh 2 zl
 clear hh
 replace hG := hG.after hb
 replace hS := hS.after hb
 clear hb
 show wpList _ _ _ [_] _ _
 refine tail_op rfl (fun K hK => ?_)
 have q240 := gL zl 0
 go_simp
 clear q240
 refine hK _ _ ?_
 clear hK K
 obtain ⟨s240, s11, s0, s1, s4, s5, s6, s7, s8, s9, s10, s12, s13, s14, s15, s16, s17, s18, s19, s20, -, -⟩ := zl
 refine act_put (d := 12) _ hs hd (by decide) [(0, _), (1, _), (4, _), (5, _), (6, _), (7, _), (8, _), (9, _), (10, _), (11, _), (13, _), (14, _), (15, _), (16, _), (17, _), (18, _), (19, _), (20, _), (240, _)] ⟨s0, s1, s4, s5, s6, s7, s8, s9, s10, s11, s13, s14, s15, s16, s17, s18, s19, s20, s240, trivial⟩ rfl ?_
 clear hs hd s0 s1 s4 s5 s6 s7 s8 s9 s10 s11 s12 s13 s14 s15 s16 s17 s18 s19 s20 s240
 intro a hs hd zl
 have hq1 : (64 : Int) ≤ (n' : Int) := by omega
 have hq2 : (n' : Int) ≤ (c' : Int) := by omega
 refine fl2 [.eq 241 _, .eq 242 _] 2 hs hd zl
  ⟨(stp rfl fun a u hb hs hl hd K hK => by have s1 := gL hl 2; clear hd; go_simp; exact kE hK hs),
   (stp rfl fun a u hb hs hl hd K hK => by have s241 := gD hd 0; clear hd; go_simp; exact kE hK hs),
   trivial⟩ ?_
 clear hs hd zl
 intro a w hb hs hd zl hh
 replace zl := lH hh 1 zl
 clear hh
 replace hG := hG.after hb
 replace hS := hS.after hb
 clear hb
 show wpList _ _ _ [_] _ _
 refine tail_op rfl (fun K hK => ?_)
 have q242 := gL zl 0
 go_simp
 clear q242
 refine hK _ _ ?_
 clear hK K
 obtain ⟨s242, s12, s0, s1, s4, s5, s6, s7, s8, s9, s10, s11, -, -, -, -, -, -, -, -, -, -⟩ := zl
 refine act_put (d := 1) _ hs hd (by decide) [(0, _), (4, _), (5, _), (6, _), (7, _), (8, _), (9, _), (10, _), (11, _), (12, _), (242, _)] ⟨s0, s4, s5, s6, s7, s8, s9, s10, s11, s12, s242, trivial⟩ rfl ?_
 clear hs hd s0 s1 s4 s5 s6 s7 s8 s9 s10 s11 s12 s242
 intro a hs hd zl
 obtain rfl := hR.out
 obtain ⟨s1, s0, s4, s5, s6, s7, s8, s9, s10, s11, s12, -, -⟩ := zl
 refine hQ a w _ ?_ hs hd ⟨s0, s1, s4, s5, s6, s7, s8, s9, s10, s11, s12, trivial⟩ hG hS
 by_cases h : n' - 64 = 0
 ·exact .inl h
 ·exact .inr (by rw [if_neg (by omega)])

set_option maxHeartbeats 4000000 in
set_option maxRecDepth 100000 in
theorem c_blockGeneric (g b o : Nat) (s : ShaSt) (x : Array Value) (nx ln : Int) (c : Nat) (l : List Int) (w : World) (hl : l.length % 64 = 0) (hlen : l.length ≤ 1000000000000) (hcap : l.length ≤ c)
  (hg : Blk w g 122 (dig s x nx ln)) (hx : x.size = 64) (hl8 : Bytes l) (hP : BytesAt w b o l 0 l.length) (hbs : b < w.heap.size) (hKt : KTab w 0) :
  Calls Tryd.prog 81 #[.pointer (some ⟨g, 0, none⟩), .slice (some ⟨b, o, none⟩) l.length c] w fun e w' => e = .returned (.tuple #[]) ∧ w.grownBy w' (some g) ∧ Blk w' g 122 (dig (shaBlks l 0 (l.length / 64) s) x nx ln) := by
 have hlt := hg.lt
 refine enter_abs Tryd.func81 rfl 283 rfl (by simp) ?_
 intro a hs hd hargs
 have s0 := hargs 0 _ rfl
 have s1 := hargs 1 _ rfl
 clear hargs
 obtain ⟨B, hBe⟩ : ∃ B, Is w.heap.size B := is_self _
 have hKlt : 0 < w.heap.size := World.block_lt_of_cell? w _ (hKt 0 (by decide))
 have hB0 : B ≠ 0 := by rw [← hBe.out]; omega
 have hbB : b ≠ B := by rw [← hBe.out]; omega
 have hgB : g ≠ B := by rw [← hBe.out]; omega
 refine wp_seq ?_
 refine wp_region_list ?_
 show wpList _ _ _ [_] _ _
 refine tail_op rfl (fun K hK => ?_)
 go_simp
 refine hK _ _ ?_
 clear hK K
 refine act_put (d := 4) _ hs hd (by decide) [(0, _), (1, _)] ⟨s0, s1, trivial⟩ rfl ?_
 clear hs hd s0 s1
 intro a hs hd zl
 generalize hw1 : World.alloc w _ = w1
 have hS : Sched w1 B 63 l 0 0 := by rw [← hw1, ← hBe.out]; exact ⟨_, Blk.new w _ _, rfl, fun j hj => absurd hj (Nat.not_lt_zero j)⟩
 have hB : Below w.heap.size w w1 := by rw [← hw1]; exact bz_alloc (bz_refl w) _
 replace hP := hP.after hB
 replace hKt := hKt.after hB
 replace hg := hg.after hB
 clear hw1
 obtain ⟨s4, s0, s1, -⟩ := zl
 rw [hBe.out] at s4
 refine wp_seq ?_
 have g0 : w1.cell? ⟨g, 0, none⟩ = some (.int .u32 s.a) := by rw [hg.cell]; rfl
 have g1 : w1.cell? ⟨g, 1, none⟩ = some (.int .u32 s.b) := by rw [hg.cell]; rfl
 have g2 : w1.cell? ⟨g, 2, none⟩ = some (.int .u32 s.c) := by rw [hg.cell]; rfl
 have g3 : w1.cell? ⟨g, 3, none⟩ = some (.int .u32 s.d) := by rw [hg.cell]; rfl
 have g4 : w1.cell? ⟨g, 4, none⟩ = some (.int .u32 s.e) := by rw [hg.cell]; rfl
 have g5 : w1.cell? ⟨g, 5, none⟩ = some (.int .u32 s.f) := by rw [hg.cell]; rfl
 have g6 : w1.cell? ⟨g, 6, none⟩ = some (.int .u32 s.g) := by rw [hg.cell]; rfl
 have g7 : w1.cell? ⟨g, 7, none⟩ = some (.int .u32 s.h) := by rw [hg.cell]; rfl
 refine fl2 (F := [(0, _), (1, _), (4, _)]) [FItem.eq 29 _, FItem.eq 30 _, FItem.eq 31 _, FItem.eq 32 _, FItem.eq 33 _, FItem.eq 34 _, FItem.eq 35 _, FItem.eq 36 _, FItem.eq 37 _, FItem.eq 38 _, FItem.eq 39 _, FItem.eq 40 _, FItem.eq 41 _, FItem.eq 42 _, FItem.eq 43 _, FItem.eq 44 _, FItem.eq 45 _, FItem.eq 46 _, FItem.eq 47 _, FItem.eq 48 _, FItem.eq 49 _, FItem.eq 50 _, FItem.eq 51 _, FItem.eq 52 _, FItem.eq 53 _, FItem.eq 54 _, FItem.eq 55 _, FItem.eq 56 _, FItem.eq 57 _, FItem.eq 58 _, FItem.eq 59 _, FItem.eq 60 _, FItem.eq 61 _, FItem.eq 62 _, FItem.eq 63 _, FItem.eq 64 _, FItem.eq 65 _, FItem.eq 66 _, FItem.eq 67 _, FItem.eq 68 _, FItem.eq 5 _, FItem.eq 6 _, FItem.eq 7 _, FItem.eq 8 _, FItem.eq 9 _, FItem.eq 10 _, FItem.eq 11 _] 47 hs hd ⟨s0, s1, s4, trivial⟩
  ⟨(stp rfl fun a u hb hs hl hd K hK => by have s0 := gL hl 0; clear hd; go_simp; exact kE hK hs),
   (stp rfl fun a u hb hs hl hd K hK => by have s29 := gD hd 0; clear hd; go_simp; exact kE hK hs),
   (stp rfl fun a u hb hs hl hd K hK => by have s30 := gD hd 1; clear hd; go_simp; exact kE hK hs),
   (stp rfl fun a u hb hs hl hd K hK => by have s31 := gD hd 2; clear hd; go_simp; exact kE hK hs),
   (stp rfl fun a u hb hs hl hd K hK => by have s32 := gD hd 3; have g0 := cell_up hb g0; have g1 := cell_up hb g1; have g2 := cell_up hb g2; have g3 := cell_up hb g3; have g4 := cell_up hb g4; have g5 := cell_up hb g5; have g6 := cell_up hb g6; have g7 := cell_up hb g7; clear hd; go_simp; exact kE hK hs),
   (stp rfl fun a u hb hs hl hd K hK => by have s0 := gL hl 0; clear hd; go_simp; exact kE hK hs),
   (stp rfl fun a u hb hs hl hd K hK => by have s34 := gD hd 5; clear hd; go_simp; exact kE hK hs),
   (stp rfl fun a u hb hs hl hd K hK => by have s35 := gD hd 6; clear hd; go_simp; exact kE hK hs),
   (stp rfl fun a u hb hs hl hd K hK => by have s36 := gD hd 7; clear hd; go_simp; exact kE hK hs),
   (stp rfl fun a u hb hs hl hd K hK => by have s37 := gD hd 8; have g0 := cell_up hb g0; have g1 := cell_up hb g1; have g2 := cell_up hb g2; have g3 := cell_up hb g3; have g4 := cell_up hb g4; have g5 := cell_up hb g5; have g6 := cell_up hb g6; have g7 := cell_up hb g7; clear hd; go_simp; exact kE hK hs),
   (stp rfl fun a u hb hs hl hd K hK => by have s0 := gL hl 0; clear hd; go_simp; exact kE hK hs),
   (stp rfl fun a u hb hs hl hd K hK => by have s39 := gD hd 10; clear hd; go_simp; exact kE hK hs),
   (stp rfl fun a u hb hs hl hd K hK => by have s40 := gD hd 11; clear hd; go_simp; exact kE hK hs),
   (stp rfl fun a u hb hs hl hd K hK => by have s41 := gD hd 12; clear hd; go_simp; exact kE hK hs),
   (stp rfl fun a u hb hs hl hd K hK => by have s42 := gD hd 13; have g0 := cell_up hb g0; have g1 := cell_up hb g1; have g2 := cell_up hb g2; have g3 := cell_up hb g3; have g4 := cell_up hb g4; have g5 := cell_up hb g5; have g6 := cell_up hb g6; have g7 := cell_up hb g7; clear hd; go_simp; exact kE hK hs),
   (stp rfl fun a u hb hs hl hd K hK => by have s0 := gL hl 0; clear hd; go_simp; exact kE hK hs),
   (stp rfl fun a u hb hs hl hd K hK => by have s44 := gD hd 15; clear hd; go_simp; exact kE hK hs),
   (stp rfl fun a u hb hs hl hd K hK => by have s45 := gD hd 16; clear hd; go_simp; exact kE hK hs),
   (stp rfl fun a u hb hs hl hd K hK => by have s46 := gD hd 17; clear hd; go_simp; exact kE hK hs),
   (stp rfl fun a u hb hs hl hd K hK => by have s47 := gD hd 18; have g0 := cell_up hb g0; have g1 := cell_up hb g1; have g2 := cell_up hb g2; have g3 := cell_up hb g3; have g4 := cell_up hb g4; have g5 := cell_up hb g5; have g6 := cell_up hb g6; have g7 := cell_up hb g7; clear hd; go_simp; exact kE hK hs),
   (stp rfl fun a u hb hs hl hd K hK => by have s0 := gL hl 0; clear hd; go_simp; exact kE hK hs),
   (stp rfl fun a u hb hs hl hd K hK => by have s49 := gD hd 20; clear hd; go_simp; exact kE hK hs),
   (stp rfl fun a u hb hs hl hd K hK => by have s50 := gD hd 21; clear hd; go_simp; exact kE hK hs),
   (stp rfl fun a u hb hs hl hd K hK => by have s51 := gD hd 22; clear hd; go_simp; exact kE hK hs),
   (stp rfl fun a u hb hs hl hd K hK => by have s52 := gD hd 23; have g0 := cell_up hb g0; have g1 := cell_up hb g1; have g2 := cell_up hb g2; have g3 := cell_up hb g3; have g4 := cell_up hb g4; have g5 := cell_up hb g5; have g6 := cell_up hb g6; have g7 := cell_up hb g7; clear hd; go_simp; exact kE hK hs),
   (stp rfl fun a u hb hs hl hd K hK => by have s0 := gL hl 0; clear hd; go_simp; exact kE hK hs),
   (stp rfl fun a u hb hs hl hd K hK => by have s54 := gD hd 25; clear hd; go_simp; exact kE hK hs),
   (stp rfl fun a u hb hs hl hd K hK => by have s55 := gD hd 26; clear hd; go_simp; exact kE hK hs),
   (stp rfl fun a u hb hs hl hd K hK => by have s56 := gD hd 27; clear hd; go_simp; exact kE hK hs),
   (stp rfl fun a u hb hs hl hd K hK => by have s57 := gD hd 28; have g0 := cell_up hb g0; have g1 := cell_up hb g1; have g2 := cell_up hb g2; have g3 := cell_up hb g3; have g4 := cell_up hb g4; have g5 := cell_up hb g5; have g6 := cell_up hb g6; have g7 := cell_up hb g7; clear hd; go_simp; exact kE hK hs),
   (stp rfl fun a u hb hs hl hd K hK => by have s0 := gL hl 0; clear hd; go_simp; exact kE hK hs),
   (stp rfl fun a u hb hs hl hd K hK => by have s59 := gD hd 30; clear hd; go_simp; exact kE hK hs),
   (stp rfl fun a u hb hs hl hd K hK => by have s60 := gD hd 31; clear hd; go_simp; exact kE hK hs),
   (stp rfl fun a u hb hs hl hd K hK => by have s61 := gD hd 32; clear hd; go_simp; exact kE hK hs),
   (stp rfl fun a u hb hs hl hd K hK => by have s62 := gD hd 33; have g0 := cell_up hb g0; have g1 := cell_up hb g1; have g2 := cell_up hb g2; have g3 := cell_up hb g3; have g4 := cell_up hb g4; have g5 := cell_up hb g5; have g6 := cell_up hb g6; have g7 := cell_up hb g7; clear hd; go_simp; exact kE hK hs),
   (stp rfl fun a u hb hs hl hd K hK => by have s0 := gL hl 0; clear hd; go_simp; exact kE hK hs),
   (stp rfl fun a u hb hs hl hd K hK => by have s64 := gD hd 35; clear hd; go_simp; exact kE hK hs),
   (stp rfl fun a u hb hs hl hd K hK => by have s65 := gD hd 36; clear hd; go_simp; exact kE hK hs),
   (stp rfl fun a u hb hs hl hd K hK => by have s66 := gD hd 37; clear hd; go_simp; exact kE hK hs),
   (stp rfl fun a u hb hs hl hd K hK => by have s67 := gD hd 38; have g0 := cell_up hb g0; have g1 := cell_up hb g1; have g2 := cell_up hb g2; have g3 := cell_up hb g3; have g4 := cell_up hb g4; have g5 := cell_up hb g5; have g6 := cell_up hb g6; have g7 := cell_up hb g7; clear hd; go_simp; exact kE hK hs),
   (stp rfl fun a u hb hs hl hd K hK => by have s33 := gD hd 4; clear hd; go_simp; exact kE hK hs),
   (stp rfl fun a u hb hs hl hd K hK => by have s38 := gD hd 9; clear hd; go_simp; exact kE hK hs),
   (stp rfl fun a u hb hs hl hd K hK => by have s43 := gD hd 14; clear hd; go_simp; exact kE hK hs),
   (stp rfl fun a u hb hs hl hd K hK => by have s48 := gD hd 19; clear hd; go_simp; exact kE hK hs),
   (stp rfl fun a u hb hs hl hd K hK => by have s53 := gD hd 24; clear hd; go_simp; exact kE hK hs),
   (stp rfl fun a u hb hs hl hd K hK => by have s58 := gD hd 29; clear hd; go_simp; exact kE hK hs),
   (stp rfl fun a u hb hs hl hd K hK => by have s63 := gD hd 34; clear hd; go_simp; exact kE hK hs),
   trivial⟩ ?_
 clear hs hd s0 s1 s4
 intro a w hb hs hd zl hh
 replace zl := lH hh 40 zl
 replace zl := lH hh 41 zl
 replace zl := lH hh 42 zl
 replace zl := lH hh 43 zl
 replace zl := lH hh 44 zl
 replace zl := lH hh 45 zl
 replace zl := lH hh 46 zl
 replace zl := lH hh 39 zl
 clear hh
 replace hg := hg.after hb
 replace hP := hP.after hb
 replace hKt := hKt.after hb
 replace hS := hS.after hb
 replace g0 := cell_up hb g0
 replace g1 := cell_up hb g1
 replace g2 := cell_up hb g2
 replace g3 := cell_up hb g3
 replace g4 := cell_up hb g4
 replace g5 := cell_up hb g5
 replace g6 := cell_up hb g6
 replace g7 := cell_up hb g7
 replace hB := bz_then hB hb
 clear hb
 show wpList _ _ _ [_] _ _
 refine tail_op rfl (fun K hK => ?_)
 have q68 := gL zl 0
 go_simp
 clear q68
 refine hK _ _ (tP hs hd zl ?_)
 clear hK K hs hd zl
 intro a hs hd zl
 clear g0 g1 g2 g3 g4 g5 g6 g7
 refine wp_seq ?_
 refine wp_block ?_
 obtain ⟨w2, hw2⟩ : ∃ w2, Is w w2 := is_self _
 obtain ⟨s12, -, s11, s10, s9, s8, s7, s6, s5, s0, s1, s4, -⟩ := zl
 refine wp_loop (fun a wr => ∃ q n' c' : Nat, ∃ P : Option Addr, ∃ S : ShaSt, n' + 64 * q = l.length ∧ (n' = 0 ∨ P = some ⟨b, o + 64 * q, none⟩) ∧ n' ≤ c' ∧ Is S (shaBlks l 0 q s) ∧ SzIs a 283 ∧ DfNil a ∧ LiveAll [(0, .pointer (some ⟨g, 0, none⟩)), (1, .slice P n' c'), (4, .pointer (some ⟨B, 0, none⟩)), (5, .int .u32 S.a), (6, .int .u32 S.b), (7, .int .u32 S.c), (8, .int .u32 S.d), (9, .int .u32 S.e), (10, .int .u32 S.f), (11, .int .u32 S.g), (12, .int .u32 S.h)] a ∧ GB w wr B ∧ Sched wr B 63 l 0 0)
  (fun a _ => match a.tmps.getD 1 undef with | .slice _ n _ => n | _ => 0) ⟨0, l.length, c, _, s, by omega, .inr rfl, hcap, rfl, hs, hd, ⟨s0, s1, s4, s5, s6, s7, s8, s9, s10, s11, s12, trivial⟩, GB.refl _ _, hS⟩ ?_
 clear hs hd s0 s1 s4 s5 s6 s7 s8 s9 s10 s11 s12 hS a
 rintro a wr ⟨q, n', c', P, S, hn, ho, hc', hSS, hs, hd, ⟨s0, s1, s4, s5, s6, s7, s8, s9, s10, s11, s12, -⟩, hG, hS⟩
 by_cases hn0 : n' = 0
 ·obtain rfl : q = l.length / 64 := by omega
  subst hn0
  clear hP hKt
  refine wp_seq ?_
  refine wp_seq ?_
  refine fl2 (F := [(0, _), (1, _), (4, _), (5, _), (6, _), (7, _), (8, _), (9, _), (10, _), (11, _), (12, _)]) [.eq 69 _, .eq 70 _] 2 hs hd ⟨s0, s1, s4, s5, s6, s7, s8, s9, s10, s11, s12, trivial⟩
   ⟨(stp rfl fun a u hb hs hl hd K hK => by have s1 := gL hl 1; clear hd; go_simp; exact kE hK hs),
    (stp rfl fun a u hb hs hl hd K hK => by have s69 := gD hd 0; clear hd; go_simp; exact kE hK hs),
    trivial⟩ ?_
  clear hs hd s0 s1 s4 s5 s6 s7 s8 s9 s10 s11 s12
  intro a w hb hs hd zl hh
  replace zl := lH hh 1 zl
  clear hh
  replace hG := hG.after hb
  replace hS := hS.after hb
  clear hb
  show wpList _ _ _ [_] _ _
  refine tail_op rfl (fun K hK => ?_)
  have q70 := gL zl 0
  go_simp
  clear q70
  refine hK _ _ (tP hs hd zl ?_)
  clear hK K hs hd zl
  intro a hs hd zl
  refine wp_cond_false (vL zl 0) ?_
  refine wp_exit ?_
  repeat refine then_exit ?_
  refine inBlock_exit ?_
  
  have hgw := gb_blk hG hg (fun e => hgB (by injection e))
  replace hB := GB.below2 hB hG (Nat.le_of_eq hBe.out)
  clear hg hG hS
  have hE := gb_below hB (some g)
  clear hB
  obtain ⟨s71, -, s0, s1, s4, s5, s6, s7, s8, s9, s10, s11, s12, -⟩ := zl
  refine wp_flow3_use [(0, _), (1, _), (4, _), (5, _), (6, _), (7, _), (8, _), (9, _), (10, _), (11, _), (12, _), (71, _)]
   [some (243, _), some (244, _), some (245, _), some (246, _), some (247, _), some (248, _), some (249, _), some (250, _), some (251, _), some (252, _), some (253, _), some (254, _), some (255, _), some (256, _), some (257, _), some (258, _), some (259, _), some (260, _), some (261, _), none, some (262, _), some (263, _), some (264, _), none, some (265, _), some (266, _), some (267, _), none, some (268, _), some (269, _), some (270, _), none, some (271, _), some (272, _), some (273, _), none, some (274, _), some (275, _), some (276, _), none, some (277, _), some (278, _), some (279, _), none, some (280, _), some (281, _), some (282, _), none]
   [19, 23, 27, 31, 35, 39, 43, 47] [none, none, none, none, none, none, none, none, none, none, none, none, none, none, none, none, none, none, none, some 0, none, none, none, some 1, none, none, none, some 2, none, none, none, some 3, none, none, none, some 4, none, none, none, some 5, none, none, none, some 6, none, none, none, some 7]
   (fun k u => World.grownBy _ u (some g) ∧ Blk u g 122 (putH S (dig s x nx ln) k))
   283 (by kernel_rfl) (by kernel_rfl) (by kernel_rfl) (by kernel_rfl) (by kernel_rfl) hs hd ⟨s0, s1, s4, s5, s6, s7, s8, s9, s10, s11, s12, s71, trivial⟩ ⟨gb_drew hE, hgw.drew⟩
   ⟨(fun a u c hT hr hs hl hd K hK => by
     obtain ⟨l0, -, -, -, -, -, -, -, -, -, -, -, -⟩ := hl
     have s0 := gd l0
     clear hd
     refine step_plain rfl ?_
     go_simp; exact hK _ _ (s_put hs (by decide)) hT),
    (fun a u c hT hr hs hl hd K hK => by
     obtain ⟨l0, -, -, -, -, -, -, -, -, -, -, -, -⟩ := hl
     have s0 := gd l0
     clear hd
     refine step_plain rfl ?_
     go_simp; exact hK _ _ (s_put hs (by decide)) hT),
    (fun a u c hT hr hs hl hd K hK => by
     obtain ⟨l0, -, -, -, -, -, -, -, -, -, -, -, -⟩ := hl
     have s0 := gd l0
     clear hd
     refine step_plain rfl ?_
     go_simp; exact hK _ _ (s_put hs (by decide)) hT),
    (fun a u c hT hr hs hl hd K hK => by
     obtain ⟨l0, -, -, -, -, -, -, -, -, -, -, -, -⟩ := hl
     have s0 := gd l0
     clear hd
     refine step_plain rfl ?_
     go_simp; exact hK _ _ (s_put hs (by decide)) hT),
    (fun a u c hT hr hs hl hd K hK => by
     obtain ⟨l0, -, -, -, -, -, -, -, -, -, -, -, -⟩ := hl
     have s0 := gd l0
     clear hd
     refine step_plain rfl ?_
     go_simp; exact hK _ _ (s_put hs (by decide)) hT),
    (fun a u c hT hr hs hl hd K hK => by
     obtain ⟨l0, -, -, -, -, -, -, -, -, -, -, -, -⟩ := hl
     have s0 := gd l0
     clear hd
     refine step_plain rfl ?_
     go_simp; exact hK _ _ (s_put hs (by decide)) hT),
    (fun a u c hT hr hs hl hd K hK => by
     obtain ⟨l0, -, -, -, -, -, -, -, -, -, -, -, -⟩ := hl
     have s0 := gd l0
     clear hd
     refine step_plain rfl ?_
     go_simp; exact hK _ _ (s_put hs (by decide)) hT),
    (fun a u c hT hr hs hl hd K hK => by
     obtain ⟨l0, -, -, -, -, -, -, -, -, -, -, -, -⟩ := hl
     have s0 := gd l0
     clear hd
     refine step_plain rfl ?_
     go_simp; exact hK _ _ (s_put hs (by decide)) hT),
    (fun a u c hT hr hs hl hd K hK => by
     obtain ⟨-, -, -, l5, -, -, -, -, -, -, -, -, -⟩ := hl
     have s5 := gd l5
     clear hd
     refine step_plain rfl ?_
     go_simp; exact hK _ _ (s_put hs (by decide)) hT),
    (fun a u c hT hr hs hl hd K hK => by
     obtain ⟨-, -, -, -, l6, -, -, -, -, -, -, -, -⟩ := hl
     have s6 := gd l6
     clear hd
     refine step_plain rfl ?_
     go_simp; exact hK _ _ (s_put hs (by decide)) hT),
    (fun a u c hT hr hs hl hd K hK => by
     obtain ⟨-, -, -, -, -, l7, -, -, -, -, -, -, -⟩ := hl
     have s7 := gd l7
     clear hd
     refine step_plain rfl ?_
     go_simp; exact hK _ _ (s_put hs (by decide)) hT),
    (fun a u c hT hr hs hl hd K hK => by
     obtain ⟨-, -, -, -, -, -, l8, -, -, -, -, -, -⟩ := hl
     have s8 := gd l8
     clear hd
     refine step_plain rfl ?_
     go_simp; exact hK _ _ (s_put hs (by decide)) hT),
    (fun a u c hT hr hs hl hd K hK => by
     obtain ⟨-, -, -, -, -, -, -, l9, -, -, -, -, -⟩ := hl
     have s9 := gd l9
     clear hd
     refine step_plain rfl ?_
     go_simp; exact hK _ _ (s_put hs (by decide)) hT),
    (fun a u c hT hr hs hl hd K hK => by
     obtain ⟨-, -, -, -, -, -, -, -, l10, -, -, -, -⟩ := hl
     have s10 := gd l10
     clear hd
     refine step_plain rfl ?_
     go_simp; exact hK _ _ (s_put hs (by decide)) hT),
    (fun a u c hT hr hs hl hd K hK => by
     obtain ⟨-, -, -, -, -, -, -, -, -, l11, -, -, -⟩ := hl
     have s11 := gd l11
     clear hd
     refine step_plain rfl ?_
     go_simp; exact hK _ _ (s_put hs (by decide)) hT),
    (fun a u c hT hr hs hl hd K hK => by
     obtain ⟨-, -, -, -, -, -, -, -, -, -, l12, -, -⟩ := hl
     have s12 := gd l12
     clear hd
     refine step_plain rfl ?_
     go_simp; exact hK _ _ (s_put hs (by decide)) hT),
    (fun a u c hT hr hs hl hd K hK => by
     have s243 := gd (sdep_get hd 0 (by kernel_rfl) rfl)
     clear hd
     refine step_plain rfl ?_
     go_simp; exact hK _ _ (s_put hs (by decide)) hT),
    (fun a u c hT hr hs hl hd K hK => by
     have s259 := gd (sdep_get hd 16 (by kernel_rfl) rfl)
     clear hd
     refine step_plain rfl ?_
     go_simp; exact hK _ _ (s_put hs (by decide)) hT),
    (fun a u c hT hr hs hl hd K hK => by
     have s260 := gd (sdep_get hd 17 (by kernel_rfl) rfl)
     clear hd
     refine step_plain rfl ?_
     go_simp; exact hK _ _ (s_put hs (by decide)) hT),
    (fun a u c hT hr hs hl hd K hK => by
     have s251 := gd (sdep_get hd 8 (by kernel_rfl) rfl)
     have s261 := gd (sdep_get hd 18 (by kernel_rfl) rfl)
     clear hd
     obtain rfl := hr 0 rfl
     refine step_plain rfl ?_
     have hfr := hT.2.free 0
     have hold := (hT.2.cell 0).trans (Array.getElem?_eq_getElem (show 0 < _ by rw [putH_size, dig_size, hx]; omega))
     go_simp
     exact hK undef _ trivial ⟨gb_set hT.1 0 (.int .u32 (S.nth 0)), hT.2.set_ 0 (.int .u32 (S.nth 0))⟩),
    (fun a u c hT hr hs hl hd K hK => by
     have s244 := gd (sdep_get hd 1 (by kernel_rfl) rfl)
     clear hd
     refine step_plain rfl ?_
     go_simp; exact hK _ _ (s_put hs (by decide)) hT),
    (fun a u c hT hr hs hl hd K hK => by
     have s262 := gd (sdep_get hd 20 (by kernel_rfl) rfl)
     clear hd
     refine step_plain rfl ?_
     go_simp; exact hK _ _ (s_put hs (by decide)) hT),
    (fun a u c hT hr hs hl hd K hK => by
     have s263 := gd (sdep_get hd 21 (by kernel_rfl) rfl)
     clear hd
     refine step_plain rfl ?_
     go_simp; exact hK _ _ (s_put hs (by decide)) hT),
    (fun a u c hT hr hs hl hd K hK => by
     have s252 := gd (sdep_get hd 9 (by kernel_rfl) rfl)
     have s264 := gd (sdep_get hd 22 (by kernel_rfl) rfl)
     clear hd
     obtain rfl := hr 1 rfl
     refine step_plain rfl ?_
     have hfr := hT.2.free 1
     have hold := (hT.2.cell 1).trans (Array.getElem?_eq_getElem (show 1 < _ by rw [putH_size, dig_size, hx]; omega))
     go_simp
     exact hK undef _ trivial ⟨gb_set hT.1 1 (.int .u32 (S.nth 1)), hT.2.set_ 1 (.int .u32 (S.nth 1))⟩),
    (fun a u c hT hr hs hl hd K hK => by
     have s245 := gd (sdep_get hd 2 (by kernel_rfl) rfl)
     clear hd
     refine step_plain rfl ?_
     go_simp; exact hK _ _ (s_put hs (by decide)) hT),
    (fun a u c hT hr hs hl hd K hK => by
     have s265 := gd (sdep_get hd 24 (by kernel_rfl) rfl)
     clear hd
     refine step_plain rfl ?_
     go_simp; exact hK _ _ (s_put hs (by decide)) hT),
    (fun a u c hT hr hs hl hd K hK => by
     have s266 := gd (sdep_get hd 25 (by kernel_rfl) rfl)
     clear hd
     refine step_plain rfl ?_
     go_simp; exact hK _ _ (s_put hs (by decide)) hT),
    (fun a u c hT hr hs hl hd K hK => by
     have s253 := gd (sdep_get hd 10 (by kernel_rfl) rfl)
     have s267 := gd (sdep_get hd 26 (by kernel_rfl) rfl)
     clear hd
     obtain rfl := hr 2 rfl
     refine step_plain rfl ?_
     have hfr := hT.2.free 2
     have hold := (hT.2.cell 2).trans (Array.getElem?_eq_getElem (show 2 < _ by rw [putH_size, dig_size, hx]; omega))
     go_simp
     exact hK undef _ trivial ⟨gb_set hT.1 2 (.int .u32 (S.nth 2)), hT.2.set_ 2 (.int .u32 (S.nth 2))⟩),
    (fun a u c hT hr hs hl hd K hK => by
     have s246 := gd (sdep_get hd 3 (by kernel_rfl) rfl)
     clear hd
     refine step_plain rfl ?_
     go_simp; exact hK _ _ (s_put hs (by decide)) hT),
    (fun a u c hT hr hs hl hd K hK => by
     have s268 := gd (sdep_get hd 28 (by kernel_rfl) rfl)
     clear hd
     refine step_plain rfl ?_
     go_simp; exact hK _ _ (s_put hs (by decide)) hT),
    (fun a u c hT hr hs hl hd K hK => by
     have s269 := gd (sdep_get hd 29 (by kernel_rfl) rfl)
     clear hd
     refine step_plain rfl ?_
     go_simp; exact hK _ _ (s_put hs (by decide)) hT),
    (fun a u c hT hr hs hl hd K hK => by
     have s254 := gd (sdep_get hd 11 (by kernel_rfl) rfl)
     have s270 := gd (sdep_get hd 30 (by kernel_rfl) rfl)
     clear hd
     obtain rfl := hr 3 rfl
     refine step_plain rfl ?_
     have hfr := hT.2.free 3
     have hold := (hT.2.cell 3).trans (Array.getElem?_eq_getElem (show 3 < _ by rw [putH_size, dig_size, hx]; omega))
     go_simp
     exact hK undef _ trivial ⟨gb_set hT.1 3 (.int .u32 (S.nth 3)), hT.2.set_ 3 (.int .u32 (S.nth 3))⟩),
    (fun a u c hT hr hs hl hd K hK => by
     have s247 := gd (sdep_get hd 4 (by kernel_rfl) rfl)
     clear hd
     refine step_plain rfl ?_
     go_simp; exact hK _ _ (s_put hs (by decide)) hT),
    (fun a u c hT hr hs hl hd K hK => by
     have s271 := gd (sdep_get hd 32 (by kernel_rfl) rfl)
     clear hd
     refine step_plain rfl ?_
     go_simp; exact hK _ _ (s_put hs (by decide)) hT),
    (fun a u c hT hr hs hl hd K hK => by
     have s272 := gd (sdep_get hd 33 (by kernel_rfl) rfl)
     clear hd
     refine step_plain rfl ?_
     go_simp; exact hK _ _ (s_put hs (by decide)) hT),
    (fun a u c hT hr hs hl hd K hK => by
     have s255 := gd (sdep_get hd 12 (by kernel_rfl) rfl)
     have s273 := gd (sdep_get hd 34 (by kernel_rfl) rfl)
     clear hd
     obtain rfl := hr 4 rfl
     refine step_plain rfl ?_
     have hfr := hT.2.free 4
     have hold := (hT.2.cell 4).trans (Array.getElem?_eq_getElem (show 4 < _ by rw [putH_size, dig_size, hx]; omega))
     go_simp
     exact hK undef _ trivial ⟨gb_set hT.1 4 (.int .u32 (S.nth 4)), hT.2.set_ 4 (.int .u32 (S.nth 4))⟩),
    (fun a u c hT hr hs hl hd K hK => by
     have s248 := gd (sdep_get hd 5 (by kernel_rfl) rfl)
     clear hd
     refine step_plain rfl ?_
     go_simp; exact hK _ _ (s_put hs (by decide)) hT),
    (fun a u c hT hr hs hl hd K hK => by
     have s274 := gd (sdep_get hd 36 (by kernel_rfl) rfl)
     clear hd
     refine step_plain rfl ?_
     go_simp; exact hK _ _ (s_put hs (by decide)) hT),
    (fun a u c hT hr hs hl hd K hK => by
     have s275 := gd (sdep_get hd 37 (by kernel_rfl) rfl)
     clear hd
     refine step_plain rfl ?_
     go_simp; exact hK _ _ (s_put hs (by decide)) hT),
    (fun a u c hT hr hs hl hd K hK => by
     have s256 := gd (sdep_get hd 13 (by kernel_rfl) rfl)
     have s276 := gd (sdep_get hd 38 (by kernel_rfl) rfl)
     clear hd
     obtain rfl := hr 5 rfl
     refine step_plain rfl ?_
     have hfr := hT.2.free 5
     have hold := (hT.2.cell 5).trans (Array.getElem?_eq_getElem (show 5 < _ by rw [putH_size, dig_size, hx]; omega))
     go_simp
     exact hK undef _ trivial ⟨gb_set hT.1 5 (.int .u32 (S.nth 5)), hT.2.set_ 5 (.int .u32 (S.nth 5))⟩),
    (fun a u c hT hr hs hl hd K hK => by
     have s249 := gd (sdep_get hd 6 (by kernel_rfl) rfl)
     clear hd
     refine step_plain rfl ?_
     go_simp; exact hK _ _ (s_put hs (by decide)) hT),
    (fun a u c hT hr hs hl hd K hK => by
     have s277 := gd (sdep_get hd 40 (by kernel_rfl) rfl)
     clear hd
     refine step_plain rfl ?_
     go_simp; exact hK _ _ (s_put hs (by decide)) hT),
    (fun a u c hT hr hs hl hd K hK => by
     have s278 := gd (sdep_get hd 41 (by kernel_rfl) rfl)
     clear hd
     refine step_plain rfl ?_
     go_simp; exact hK _ _ (s_put hs (by decide)) hT),
    (fun a u c hT hr hs hl hd K hK => by
     have s257 := gd (sdep_get hd 14 (by kernel_rfl) rfl)
     have s279 := gd (sdep_get hd 42 (by kernel_rfl) rfl)
     clear hd
     obtain rfl := hr 6 rfl
     refine step_plain rfl ?_
     have hfr := hT.2.free 6
     have hold := (hT.2.cell 6).trans (Array.getElem?_eq_getElem (show 6 < _ by rw [putH_size, dig_size, hx]; omega))
     go_simp
     exact hK undef _ trivial ⟨gb_set hT.1 6 (.int .u32 (S.nth 6)), hT.2.set_ 6 (.int .u32 (S.nth 6))⟩),
    (fun a u c hT hr hs hl hd K hK => by
     have s250 := gd (sdep_get hd 7 (by kernel_rfl) rfl)
     clear hd
     refine step_plain rfl ?_
     go_simp; exact hK _ _ (s_put hs (by decide)) hT),
    (fun a u c hT hr hs hl hd K hK => by
     have s280 := gd (sdep_get hd 44 (by kernel_rfl) rfl)
     clear hd
     refine step_plain rfl ?_
     go_simp; exact hK _ _ (s_put hs (by decide)) hT),
    (fun a u c hT hr hs hl hd K hK => by
     have s281 := gd (sdep_get hd 45 (by kernel_rfl) rfl)
     clear hd
     refine step_plain rfl ?_
     go_simp; exact hK _ _ (s_put hs (by decide)) hT),
    (fun a u c hT hr hs hl hd K hK => by
     have s258 := gd (sdep_get hd 15 (by kernel_rfl) rfl)
     have s282 := gd (sdep_get hd 46 (by kernel_rfl) rfl)
     clear hd
     obtain rfl := hr 7 rfl
     refine step_plain rfl ?_
     have hfr := hT.2.free 7
     have hold := (hT.2.cell 7).trans (Array.getElem?_eq_getElem (show 7 < _ by rw [putH_size, dig_size, hx]; omega))
     go_simp
     exact hK undef _ trivial ⟨gb_set hT.1 7 (.int .u32 (S.nth 7)), hT.2.set_ 7 (.int .u32 (S.nth 7))⟩),
    trivial⟩ ?_
  clear hs hd s0 s1 s4 s5 s6 s7 s8 s9 s10 s11 s12 s71
  intro a w hT hs hd hl hh
  obtain ⟨-, -, -, -, -, -, -, -, -, -, -, -, -⟩ := hl
  clear hh
  rw [show ([19, 23, 27, 31, 35, 39, 43, 47] : List Nat).length = 8 from rfl, putH_dig, hSS.out] at hT
  exact end_none rfl hd ⟨rfl, hT.1, hT.2⟩
 ·obtain rfl : P = some ⟨b, o + 64 * q, none⟩ := ho.resolve_left hn0
  refine bg_block a wr hs hd s0 s1 s4 s5 s6 s7 s8 s9 s10 s11 s12 (by omega) (by omega) hc' hG (hS.zero (64 * q)) hKt hB0 ?_ hbB hl8 ?_
  ·have := hP.sub (q := 64 * q) (m := 64) (by omega)
   rwa [Nat.zero_add] at this
  ·have hm : (match a.tmps.getD 1 undef with | .slice _ n _ => n | _ => 0) = n' := by rw [s1]
   intro a' w' P' hP' h1 h2 h3 h4 h5
   have hm' : (match a'.tmps.getD 1 undef with | .slice _ n _ => n | _ => 0) = n' - 64 := by rw [h3.2.1]
   refine ⟨⟨q + 1, n' - 64, c' - 64, P', shaBlk l (64 * q) S, by omega, ?_, by omega, ?_, h1, h2, h3, h4, h5.zero 0⟩, ?_⟩
   ·exact hP'.imp id (fun e => by rw [e, Nat.mul_succ, Nat.add_assoc])
   ·unfold Is; rw [shaBlks_snoc, Nat.zero_add, ← hSS.out]
   ·show (match a'.tmps.getD 1 undef with | .slice _ n _ => n | _ => 0) < (match a.tmps.getD 1 undef with | .slice _ n _ => n | _ => 0)
    rw [hm, hm']
    omega
end Go.Proofs.YtcmllcmcbamlbaaDoor
namespace Go.Proofs.YtcmllcmcbamlbaaDoor
open Go.RowKit

/-! ### Plain: blocks of one message, of another -/
theorem be4_congr {a b : List Int} {i j : Nat} (h : ∀ k, k < 4 → a.getD (i + k) 0 = b.getD (j + k) 0) : be4 a i = be4 b j := by
 unfold be4
 have h0 := h 0 (by omega); have h1 := h 1 (by omega); have h2 := h 2 (by omega); have h3 := h 3 (by omega)
 rw [Nat.add_zero, Nat.add_zero] at h0
 rw [h0, h1, h2, h3]
theorem wd_congr {a b : List Int} {p q : Nat} (h : ∀ i, i < 64 → a.getD (p + i) 0 = b.getD (q + i) 0) (i : Nat) : wd a p i = wd b q i := by
 induction i using Nat.strongRecOn with
 | _ i ih =>
  by_cases hi : i < 16
  ·rw [wd_lo _ _ _ hi, wd_lo _ _ _ hi]
   refine be4_congr fun k hk => ?_
   have := h (4 * i + k) (by omega)
   rwa [← Nat.add_assoc, ← Nat.add_assoc] at this
  ·rw [wd_hi a p i (by omega), wd_hi b q i (by omega), ih (i - 16) (by omega), ih (i - 15) (by omega), ih (i - 7) (by omega), ih (i - 2) (by omega)]
theorem shaRds_congr {a b : List Int} {p q : Nat} (h : ∀ i, i < 64 → a.getD (p + i) 0 = b.getD (q + i) 0) (s : ShaSt) (n : Nat) : shaRds a p s n = shaRds b q s n := by
 induction n with
 | zero => rfl
 | succ n ih => rw [shaRds, shaRds, ih, wd_congr h]
theorem shaBlks_congr {a b : List Int} {p q : Nat} (n : Nat) (s : ShaSt) (h : ∀ i, i < 64 * n → a.getD (p + i) 0 = b.getD (q + i) 0) : shaBlks a p n s = shaBlks b q n s := by
 induction n generalizing p q s with
 | zero => rfl
 | succ n ih =>
  have e : shaBlk a p s = shaBlk b q s := by
   unfold shaBlk
   rw [shaRds_congr (fun i hi => h i (by omega))]
  rw [shaBlks, shaBlks, e]
  refine ih _ fun i hi => ?_
  have := h (64 + i) (by omega)
  rwa [← Nat.add_assoc, ← Nat.add_assoc] at this
theorem shaBlks_add (b : List Int) (p n k : Nat) (s : ShaSt) : shaBlks b p (n + k) s = shaBlks b (p + 64 * n) k (shaBlks b p n s) := by
 induction n generalizing p s with
 | zero => simp [shaBlks]
 | succ n ih =>
  rw [show n + 1 + k = (n + k) + 1 by omega, shaBlks, ih, shaBlks]
  congr 1
  omega
theorem Bytes.append {a b : List Int} (h : Bytes a) (k : Bytes b) : Bytes (a ++ b) := fun x hx => (List.mem_append.1 hx).elim (h x) (k x)
theorem Bytes.take {a : List Int} (h : Bytes a) (n : Nat) : Bytes (a.take n) := fun x hx => h x (List.mem_of_mem_take hx)
theorem Bytes.drop {a : List Int} (h : Bytes a) (n : Nat) : Bytes (a.drop n) := fun x hx => h x (List.mem_of_mem_drop hx)
theorem Bytes.nil : Bytes [] := fun x hx => by cases hx
theorem getD_app (a b : List Int) (i : Nat) : (a ++ b).getD (a.length + i) 0 = b.getD i 0 := by
 simp [List.getD_eq_getElem?_getD, List.getElem?_append_right]
theorem getD_app_lo {a : List Int} (b : List Int) {i : Nat} (h : i < a.length) : (a ++ b).getD i 0 = a.getD i 0 := by
 simp [List.getD_eq_getElem?_getD, List.getElem?_append_left h]
theorem getD_take' (a : List Int) (n i : Nat) (h : i < n) : (a.take n).getD i 0 = a.getD i 0 := by
 simp [List.getD_eq_getElem?_getD, List.getElem?_take, h]
theorem getD_drop' (a : List Int) (n i : Nat) : (a.drop n).getD i 0 = a.getD (n + i) 0 := by
 simp [List.getD_eq_getElem?_getD]

/-! ### A digest's cells -/
theorem dig_nx (s : ShaSt) (x : Array Value) (nx ln nx' : Int) (hx : x.size = 64) : (dig s x nx ln).setIfInBounds 72 (.int .i64 nx') = dig s x nx' ln := by
 apply Array.ext'
 have hl : x.toList.length = 64 := by simpa using hx
 simp [dig, List.set_append, hl]
theorem dig_ln (s : ShaSt) (x : Array Value) (nx ln ln' : Int) (hx : x.size = 64) : (dig s x nx ln).setIfInBounds 73 (.int .u64 ln') = dig s x nx ln' := by
 apply Array.ext'
 have hl : x.toList.length = 64 := by simpa using hx
 simp [dig, List.set_append, hl]
theorem dig_get_nx (s : ShaSt) (x : Array Value) (nx ln : Int) (hx : x.size = 64) : (dig s x nx ln)[72]? = some (.int .i64 nx) := by
 have hl : x.toList.length = 64 := by simpa using hx
 simp [dig, List.getElem?_append, hl]
theorem dig_get_ln (s : ShaSt) (x : Array Value) (nx ln : Int) (hx : x.size = 64) : (dig s x nx ln)[73]? = some (.int .u64 ln) := by
 have hl : x.toList.length = 64 := by simpa using hx
 simp [dig, List.getElem?_append, hl]
theorem dig_get_224 (s : ShaSt) (x : Array Value) (nx ln : Int) (hx : x.size = 64) : (dig s x nx ln)[74]? = some (.bool false) := by
 have hl : x.toList.length = 64 := by simpa using hx
 simp [dig, List.getElem?_append, hl]
theorem dig_get_x (s : ShaSt) (x : Array Value) (nx ln : Int) (j : Nat) (hj : j < x.size) : (dig s x nx ln)[8 + j]? = x[j]? := by
 have hl : j < x.toList.length := by simpa using hj
 rw [show 8 + j = j + 8 by omega]
 simp [dig, List.getElem?_append, hl, hj]
theorem Bs.at_ {w : World} {A : Option Addr} {l : List Int} (h : Bs w A l) (hl : 0 < l.length) : ∃ b o, A = some ⟨b, o, none⟩ ∧ b < w.heap.size ∧ ∀ i, i < l.length → w.cell? ⟨b, o + i, none⟩ = some (.int .u8 (l.getD i 0)) := by
 obtain ⟨b, o, rfl, hb, _⟩ := h 0 hl
 refine ⟨b, o, rfl, hb, fun i hi => ?_⟩
 obtain ⟨b', o', e, _, hc⟩ := h i hi
 injection e with e
 injection e with e1 e2
 subst e1 e2
 exact hc
/-- Bytes laid over a buffer from a place on. -/
def putX (x : Array Value) (off : Nat) (l : List Int) : Array Value := (x.toList.take off ++ l.map (Value.int .u8) ++ x.toList.drop (off + l.length)).toArray
theorem putX_size (x : Array Value) (off : Nat) (l : List Int) (h : off + l.length ≤ x.size) : (putX x off l).size = x.size := by
 unfold putX
 simp
 omega
theorem putX_in (x : Array Value) (off : Nat) (l : List Int) (h : off + l.length ≤ x.size) (j : Nat) (hj : j < l.length) : (putX x off l)[off + j]? = some (.int .u8 (l.getD j 0)) := by
 unfold putX
 have h1 : (x.toList.take off).length = off := by simp; omega
 simp only [List.getElem?_toArray, List.append_assoc]
 rw [List.getElem?_append_right (by omega), h1, Nat.add_sub_cancel_left, List.getElem?_append_left (by simpa using hj), List.getElem?_map, List.getElem?_eq_getElem hj]
 simp [List.getD_eq_getElem?_getD, List.getElem?_eq_getElem hj]
theorem putX_lo (x : Array Value) (off : Nat) (l : List Int) (h : off ≤ x.size) (j : Nat) (hj : j < off) : (putX x off l)[j]? = x[j]? := by
 unfold putX
 simp only [List.getElem?_toArray, List.append_assoc]
 rw [List.getElem?_append_left (by simp; omega), List.getElem?_take, if_pos hj]
 simp
theorem putX_nil (x : Array Value) (off : Nat) : putX x off [] = x := by unfold putX; simp
theorem dig_copy (s : ShaSt) (x : Array Value) (nx ln : Int) (off : Nat) (l : List Int) (h : off + l.length ≤ x.size) :
  ((dig s x nx ln).toList.take (8 + off) ++ l.map (Value.int .u8) ++ (dig s x nx ln).toList.drop (8 + off + (l.map (Value.int .u8)).length)).toArray = dig s (putX x off l) nx ln := by
 apply Array.ext'
 have hl : x.toList.length = x.size := by simp
 have e1 : (dig s x nx ln).toList = [.int .u32 s.a, .int .u32 s.b, .int .u32 s.c, .int .u32 s.d, .int .u32 s.e, .int .u32 s.f, .int .u32 s.g, .int .u32 s.h] ++ (x.toList ++ [.int .i64 nx, .int .u64 ln, .bool false]) := by simp [dig]
 have e2 : (dig s (putX x off l) nx ln).toList = [.int .u32 s.a, .int .u32 s.b, .int .u32 s.c, .int .u32 s.d, .int .u32 s.e, .int .u32 s.f, .int .u32 s.g, .int .u32 s.h] ++ ((x.toList.take off ++ l.map (Value.int .u8) ++ x.toList.drop (off + l.length)) ++ [.int .i64 nx, .int .u64 ln, .bool false]) := by simp [dig, putX]
 rw [e1, e2, List.length_map]
 rw [show 8 + off + l.length = 8 + (off + l.length) by omega]
 rw [List.take_append, List.drop_append]
 simp only [List.length_cons, List.length_nil, Nat.zero_add]
 rw [List.take_of_length_le (by simp), List.drop_of_length_le (by simp)]
 simp only [Nat.add_sub_cancel_left, List.nil_append]
 rw [List.take_append_of_le_length (by omega), List.drop_append_of_le_length (by omega)]
 simp [List.append_assoc]

theorem u8_size : (Tryd.prog.info? 5).map (·.size) = some 1 := by kernel_rfl
/-- The builtin copy of bytes into a digest's buffer. -/
theorem run_copy_dig (w : World) (ty : TypeId) {g off dLen dCap : Nat} {s : ShaSt} {x : Array Value} {nx ln : Int} {A : Option Addr} {c : Nat} {l : List Int} (hg : Blk w g 122 (dig s x nx ln)) (hx : x.size = 64) (hoff : off + dLen = 64) (hl : Bs w A l) :
  ∃ w', (Builtin.copy_ #[23, 23] ty #[.slice (some ⟨g, 8 + off, none⟩) dLen dCap, .slice A l.length c]).run Tryd.prog w = .ok (.int .i64 ((min l.length dLen : Nat) : Int)) w' ∧ w.grownBy w' (some g) ∧ Blk w' g 122 (dig s (putX x off (l.take dLen)) nx ln) := by
 by_cases h0 : min l.length dLen = 0
 ·have hr := run_copy_none (P := Tryd.prog) w 23 23 ty 5 (some ⟨g, 8 + off, none⟩) A dLen dCap l.length c Tryd.underlying23 u8_size h0
  have he : l.take dLen = [] := by
   rcases Nat.eq_zero_or_pos dLen with h | h
   ·rw [h, List.take_zero]
   ·have : l.length = 0 := by omega
    rw [List.eq_nil_of_length_eq_zero this, List.take_nil]
  refine ⟨w, ?_, gb_refl _ _, by rw [he, putX_nil]; exact hg⟩
  rw [hr, h0]
  rfl
 ·have hpos : 0 < l.length := by omega
  obtain ⟨b, o, rfl, hb, hc⟩ := hl.at_ hpos
  have hlen : ((l.take dLen).map (Value.int .u8)).length = Nat.min l.length dLen := by
   rw [List.length_map, List.length_take]
   exact Nat.min_comm ..
  have hr := run_copy_row (P := Tryd.prog) w 23 23 ty 5 g (8 + off) dLen dCap ⟨b, o, none⟩ l.length c _ 122 ((l.take dLen).map (Value.int .u8)) Tryd.underlying23 u8_size hg hlen
   (by
    intro j v hv
    rw [List.getElem?_map, List.getElem?_take] at hv
    split at hv
    ·rename_i hj
     cases hlj : l[j]? with
     | none => rw [hlj] at hv; cases hv
     | some y =>
      rw [hlj] at hv
      have hjl : j < l.length := (List.getElem?_eq_some_iff.1 hlj).1
      have hadd : (⟨b, o, none⟩ : Addr).add j = ⟨b, o + j, none⟩ := by unfold Addr.add; split <;> simp_all
      rw [hadd, hc j hjl, List.getD_eq_getElem?_getD, hlj]
      simpa using hv
    ·cases hv)
   (by rw [hlen, dig_size, hx]; have := Nat.min_le_right l.length dLen; show 8 + off + min l.length dLen ≤ _; omega) (u8_cells _)
  have hle : (l.take dLen).length = min l.length dLen := by rw [List.length_take]; omega
  rw [dig_copy s x nx ln off (l.take dLen) (by rw [hle]; omega)] at hr
  refine ⟨w.setRow g (dig s (putX x off (l.take dLen)) nx ln), ?_, ⟨rfl, rfl, rfl, by simp, fun k hk hn => setRow_other _ _ _ _ (fun e => hn (by rw [e]))⟩, hg.setRow _⟩
  rw [hr, hlen]
  rfl

theorem wp_copy_dig {o : Oper} {a : Act} {w : World} {K : Act → World → Prop} {Q : Exit → Act → World → Prop} (d q : Operand) (ho : o.op = .call { callee := .builtin .copy, args := #[d, q], argTypes := #[23, 23] })
  {g off dLen dCap : Nat} {s : ShaSt} {x : Array Value} {nx ln : Int} {A : Option Addr} {c : Nat} {l : List Int} (hdv : a.eval d = .slice (some ⟨g, 8 + off, none⟩) dLen dCap) (hqv : a.eval q = .slice A l.length c) (hg : Blk w g 122 (dig s x nx ln)) (hx : x.size = 64) (hoff : off + dLen = 64) (hl : Bs w A l)
  (h : ∀ w', w.grownBy w' (some g) → Blk w' g 122 (dig s (putX x off (l.take dLen)) nx ln) → K (a.put o.dst (.int .i64 ((min l.length dLen : Nat) : Int))) w') : o.wp Tryd.prog a w K Q := by
 obtain ⟨w', hr, h1, h2⟩ := run_copy_dig w o.type (dCap := dCap) (c := c) hg hx hoff hl
 unfold Oper.wp execOp
 simp only [ho, resolve, invoke, builtin, Sem.run_bind, Sem.run_pure, Result.andThen_ok, List.map_toArray, List.map_cons, List.map_nil, hdv, hqv, hr]
 exact h w' h1 h2

theorem Bs.after {w w' : World} {A : Option Addr} {l : List Int} (h : Bs w A l) (hb : Below w.heap.size w w') : Bs w' A l := h.below hb
theorem bs_of {w : World} {b o n : Nat} {q : List Int} (h : BytesAt w b o q 0 n) (hq : q.length = n) : Bs w (some ⟨b, o, none⟩) q := fun i hi => by
 have := h i (by omega)
 rw [Nat.zero_add] at this
 exact ⟨b, o, rfl, World.block_lt_of_cell? w _ this, this⟩

/-! ### What a digest has taken up -/
def One (x : Array Value) : Prop := ∀ v ∈ x.toList, v.oneCell' = true
theorem One.putX {x : Array Value} (h : One x) (off : Nat) (l : List Int) : One (putX x off l) := by
 intro v hv
 unfold Go.Proofs.YtcmllcmcbamlbaaDoor.putX at hv
 simp only [List.mem_append, List.mem_map] at hv
 rcases hv with (hv | ⟨a, _, rfl⟩) | hv
 ·exact h v (List.mem_of_mem_take hv)
 ·rfl
 ·exact h v (List.mem_of_mem_drop hv)
def Dst (w : World) (g : Nat) (m : List Int) : Prop :=
 ∃ x : Array Value, (x.size = 64 ∧ One x) ∧ Blk w g 122 (dig (shaBlks m 0 (m.length / 64) sha0) x ((m.length % 64 : Nat) : Int) ((m.length : Nat) : Int)) ∧ ∀ j, j < m.length % 64 → x[j]? = some (.int .u8 (m.getD (64 * (m.length / 64) + j) 0))
theorem Dst.after {w w' : World} {g : Nat} {m : List Int} (h : Dst w g m) (hb : Below w.heap.size w w') : Dst w' g m := by
 obtain ⟨x, h1, h2, h3⟩ := h
 exact ⟨x, h1, h2.after hb, h3⟩
theorem Dst.lt {w : World} {g : Nat} {m : List Int} (h : Dst w g m) : g < w.heap.size := by
 obtain ⟨x, h1, h2, h3⟩ := h
 exact h2.lt

/-- In the middle of a Write: of the message M all but the last n bytes have been taken up. -/
def MidD (w : World) (g : Nat) (M : List Int) (n : Nat) : Prop :=
 (n = 0 ∧ Dst w g M) ∨ ∃ (x : Array Value) (k : Nat), (x.size = 64 ∧ One x) ∧ 64 * k + n = M.length ∧ Blk w g 122 (dig (shaBlks M 0 k sha0) x 0 ((M.length : Nat) : Int))
theorem MidD.after {w w' : World} {g n : Nat} {M : List Int} (h : MidD w g M n) (hb : Below w.heap.size w w') : MidD w' g M n := by
 rcases h with ⟨h1, h2⟩ | ⟨x, k, h1, h2, h3⟩
 ·exact .inl ⟨h1, h2.after hb⟩
 ·exact .inr ⟨x, k, h1, h2, h3.after hb⟩
/-- The piece of a message from 64 k on: j blocks. -/
def piece (M : List Int) (k j : Nat) : List Int := (M.drop (64 * k)).take (64 * j)
theorem piece_length (M : List Int) (k j : Nat) (h : 64 * k + 64 * j ≤ M.length) : (piece M k j).length = 64 * j := by
 unfold piece
 rw [List.length_take, List.length_drop]
 omega
theorem piece_get (M : List Int) (k j i : Nat) (h : i < 64 * j) : (piece M k j).getD i 0 = M.getD (64 * k + i) 0 := by
 unfold piece
 rw [getD_take' _ _ _ h, getD_drop']
theorem piece_bytes {M : List Int} (h : Bytes M) (k j : Nat) : Bytes (piece M k j) := (h.drop _).take _
theorem shaBlks_piece (M : List Int) (k j : Nat) : shaBlks (piece M k j) 0 j (shaBlks M 0 k sha0) = shaBlks M 0 (k + j) sha0 := by
 rw [shaBlks_add, Nat.zero_add]
 refine shaBlks_congr _ _ fun i hi => ?_
 rw [Nat.zero_add, piece_get _ _ _ _ hi]
theorem shaBlks_front {m M : List Int} {p : List Int} (h : Is M (m ++ p)) : shaBlks m 0 (m.length / 64) sha0 = shaBlks M 0 (m.length / 64) sha0 := by
 refine shaBlks_congr _ _ fun i hi => ?_
 rw [h.out, Nat.zero_add, getD_app_lo p (by omega)]
theorem andNot63 (n : Nat) (h : n ≤ 1000000000000) : bits .andNot .i64 (n : Int) 63 = ((n - n % 64 : Nat) : Int) := by
 show IntKind.i64.wrap (((BitVec.ofInt 64 (n : Int) &&& ~~~BitVec.ofInt 64 ((63 : Nat) : Int)).toNat : Nat) : Int) = _
 rw [BitVec.toNat_and, BitVec.toNat_not, ofInt_u64 n (by omega), ofInt_u64 63 (by omega)]
 have e : 2 ^ 64 - 1 - 63 = 18446744073709551552 := by decide
 rw [e, nat_hi64_6, Nat.mod_eq_of_lt (by omega)]
 rw [IntWalk.i64_in _ (by omega)]
 omega
/-- The code at a place: left (false) or right of a sequence. -/
def partAt : List Bool → Code → Code
 | [], c => c
 | false :: l, .seq x _ => partAt l x
 | true :: l, .seq _ y => partAt l y
 | _, c => c
end Go.Proofs.YtcmllcmcbamlbaaDoor
namespace Go.Proofs.YtcmllcmcbamlbaaDoor
open Go.RowKit

set_option maxHeartbeats 4000000 in
set_option maxRecDepth 100000 in
theorem c_Reset (g : Nat) (s : ShaSt) (x : Array Value) (nx ln : Int) (w : World) (hg : Blk w g 122 (dig s x nx ln)) (hx : x.size = 64) (hx1 : One x) :
  Calls Tryd.prog 69 #[.pointer (some ⟨g, 0, none⟩)] w fun e w' => e = .returned (.tuple #[]) ∧ w.grownBy w' (some g) ∧ Dst w' g [] := by
 refine enter_abs Tryd.func69 rfl 77 rfl (by simp) ?_
 intro a hs hd hargs
 have s0 := hargs 0 _ rfl
 clear hargs
 have hG := GB.refl w g
 refine wp_seq ?_
 refine wp_seq ?_
 have c4 := (hg.cell 74).trans (dig_get_224 s x nx ln hx)
 refine fl2 (F := [(0, _)]) [.eq 2 _, .eq 3 _, .eq 4 _, .eq 5 _] 4 hs hd ⟨s0, trivial⟩
  ⟨(stp rfl fun a u hb hs hl hd K hK => by have s0 := gL hl 0; clear hd; go_simp; exact kE hK hs),
   (stp rfl fun a u hb hs hl hd K hK => by have s2 := gD hd 0; clear hd; go_simp; exact kE hK hs),
   (stp rfl fun a u hb hs hl hd K hK => by have s3 := gD hd 1; clear hd; go_simp; exact kE hK hs),
   (stp rfl fun a u hb hs hl hd K hK => by have s4 := gD hd 2; have c4 := cell_up hb c4; clear hd; go_simp; exact kE hK hs),
   trivial⟩ ?_
 clear hs hd s0
 intro a w hb hs hd zl hh
 replace zl := lH hh 3 zl
 clear hh
 replace hG := hG.after hb
 replace hg := hg.after hb
 replace c4 := cell_up hb c4
 clear hb
 show wpList _ _ _ [_] _ _
 refine tail_op rfl (fun K hK => ?_)
 have q5 := gL zl 0
 go_simp
 clear q5
 refine hK _ _ (tP hs hd zl ?_)
 clear hK K hs hd zl
 intro a hs hd zl
 clear c4
 replace hg : Blk w g 122 (putH sha0 (dig s x nx ln) 0) := hg
 refine wp_cond_true (vL zl 0) ?_
 refine wp_seq ?_
 refine fl2 [.eq 7 _, .eq 8 _, .eq 9 _, .eq 10 _] 4 hs hd zl
  ⟨(stp rfl fun a u hb hs hl hd K hK => by have s0 := gL hl 2; clear hd; go_simp; exact kE hK hs),
   (stp rfl fun a u hb hs hl hd K hK => by have s7 := gD hd 0; clear hd; go_simp; exact kE hK hs),
   (stp rfl fun a u hb hs hl hd K hK => by have s8 := gD hd 1; clear hd; go_simp; exact kE hK hs),
   (stp rfl fun a u hb hs hl hd K hK => by have s9 := gD hd 2; clear hd; go_simp; exact kE hK hs),
   trivial⟩ ?_
 clear hs hd zl
 intro a w hb hs hd zl hh
 replace zl := lH hh 3 zl
 clear hh
 replace hG := hG.after hb
 replace hg := hg.after hb
 clear hb
 show wpList _ _ _ [_] _ _
 refine tail_op rfl (fun K hK => ?_)
 have q10 := gL zl 0
 have hfr := hg.free (0)
 have hold := (hg.cell (0)).trans (Array.getElem?_eq_getElem (show 0 < _ by rw [putH_size, dig_size, hx]; omega))
 go_simp
 clear hfr hold
 clear q10
 refine hK _ _ ?_
 clear hK K
 change wpList _ _ _ _ a _
 replace hG := hG.set (0) (.int .u32 1779033703)
 replace hg := hg.set_ (0) (.int .u32 1779033703)
 replace hg : Blk _ g 122 (putH sha0 (dig s x nx ln) 1) := hg
 revert hG hg
 generalize World.setCell _ _ _ = w
 intro hG hg
 refine wp_seq ?_
 refine fl2 [.eq 11 _, .eq 12 _, .eq 13 _, .eq 14 _] 4 hs hd zl
  ⟨(stp rfl fun a u hb hs hl hd K hK => by have s0 := gL hl 3; clear hd; go_simp; exact kE hK hs),
   (stp rfl fun a u hb hs hl hd K hK => by have s11 := gD hd 0; clear hd; go_simp; exact kE hK hs),
   (stp rfl fun a u hb hs hl hd K hK => by have s12 := gD hd 1; clear hd; go_simp; exact kE hK hs),
   (stp rfl fun a u hb hs hl hd K hK => by have s13 := gD hd 2; clear hd; go_simp; exact kE hK hs),
   trivial⟩ ?_
 clear hs hd zl
 intro a w hb hs hd zl hh
 replace zl := lH hh 3 zl
 clear hh
 replace hG := hG.after hb
 replace hg := hg.after hb
 clear hb
 show wpList _ _ _ [_] _ _
 refine tail_op rfl (fun K hK => ?_)
 have q14 := gL zl 0
 have hfr := hg.free (1)
 have hold := (hg.cell (1)).trans (Array.getElem?_eq_getElem (show 1 < _ by rw [putH_size, dig_size, hx]; omega))
 go_simp
 clear hfr hold
 clear q14
 refine hK _ _ ?_
 clear hK K
 change wpList _ _ _ _ a _
 replace hG := hG.set (1) (.int .u32 3144134277)
 replace hg := hg.set_ (1) (.int .u32 3144134277)
 replace hg : Blk _ g 122 (putH sha0 (dig s x nx ln) 2) := hg
 revert hG hg
 generalize World.setCell _ _ _ = w
 intro hG hg
 refine wp_seq ?_
 refine fl2 [.eq 15 _, .eq 16 _, .eq 17 _, .eq 18 _] 4 hs hd zl
  ⟨(stp rfl fun a u hb hs hl hd K hK => by have s0 := gL hl 4; clear hd; go_simp; exact kE hK hs),
   (stp rfl fun a u hb hs hl hd K hK => by have s15 := gD hd 0; clear hd; go_simp; exact kE hK hs),
   (stp rfl fun a u hb hs hl hd K hK => by have s16 := gD hd 1; clear hd; go_simp; exact kE hK hs),
   (stp rfl fun a u hb hs hl hd K hK => by have s17 := gD hd 2; clear hd; go_simp; exact kE hK hs),
   trivial⟩ ?_
 clear hs hd zl
 intro a w hb hs hd zl hh
 replace zl := lH hh 3 zl
 clear hh
 replace hG := hG.after hb
 replace hg := hg.after hb
 clear hb
 show wpList _ _ _ [_] _ _
 refine tail_op rfl (fun K hK => ?_)
 have q18 := gL zl 0
 have hfr := hg.free (2)
 have hold := (hg.cell (2)).trans (Array.getElem?_eq_getElem (show 2 < _ by rw [putH_size, dig_size, hx]; omega))
 go_simp
 clear hfr hold
 clear q18
 refine hK _ _ ?_
 clear hK K
 change wpList _ _ _ _ a _
 replace hG := hG.set (2) (.int .u32 1013904242)
 replace hg := hg.set_ (2) (.int .u32 1013904242)
 replace hg : Blk _ g 122 (putH sha0 (dig s x nx ln) 3) := hg
 revert hG hg
 generalize World.setCell _ _ _ = w
 intro hG hg
 refine wp_seq ?_
 refine fl2 [.eq 19 _, .eq 20 _, .eq 21 _, .eq 22 _] 4 hs hd zl
  ⟨(stp rfl fun a u hb hs hl hd K hK => by have s0 := gL hl 5; clear hd; go_simp; exact kE hK hs),
   (stp rfl fun a u hb hs hl hd K hK => by have s19 := gD hd 0; clear hd; go_simp; exact kE hK hs),
   (stp rfl fun a u hb hs hl hd K hK => by have s20 := gD hd 1; clear hd; go_simp; exact kE hK hs),
   (stp rfl fun a u hb hs hl hd K hK => by have s21 := gD hd 2; clear hd; go_simp; exact kE hK hs),
   trivial⟩ ?_
 clear hs hd zl
 intro a w hb hs hd zl hh
 replace zl := lH hh 3 zl
 clear hh
 replace hG := hG.after hb
 replace hg := hg.after hb
 clear hb
 show wpList _ _ _ [_] _ _
 refine tail_op rfl (fun K hK => ?_)
 have q22 := gL zl 0
 have hfr := hg.free (3)
 have hold := (hg.cell (3)).trans (Array.getElem?_eq_getElem (show 3 < _ by rw [putH_size, dig_size, hx]; omega))
 go_simp
 clear hfr hold
 clear q22
 refine hK _ _ ?_
 clear hK K
 change wpList _ _ _ _ a _
 replace hG := hG.set (3) (.int .u32 2773480762)
 replace hg := hg.set_ (3) (.int .u32 2773480762)
 replace hg : Blk _ g 122 (putH sha0 (dig s x nx ln) 4) := hg
 revert hG hg
 generalize World.setCell _ _ _ = w
 intro hG hg
 refine wp_seq ?_
 refine fl2 [.eq 23 _, .eq 24 _, .eq 25 _, .eq 26 _] 4 hs hd zl
  ⟨(stp rfl fun a u hb hs hl hd K hK => by have s0 := gL hl 6; clear hd; go_simp; exact kE hK hs),
   (stp rfl fun a u hb hs hl hd K hK => by have s23 := gD hd 0; clear hd; go_simp; exact kE hK hs),
   (stp rfl fun a u hb hs hl hd K hK => by have s24 := gD hd 1; clear hd; go_simp; exact kE hK hs),
   (stp rfl fun a u hb hs hl hd K hK => by have s25 := gD hd 2; clear hd; go_simp; exact kE hK hs),
   trivial⟩ ?_
 clear hs hd zl
 intro a w hb hs hd zl hh
 replace zl := lH hh 3 zl
 clear hh
 replace hG := hG.after hb
 replace hg := hg.after hb
 clear hb
 show wpList _ _ _ [_] _ _
 refine tail_op rfl (fun K hK => ?_)
 have q26 := gL zl 0
 have hfr := hg.free (4)
 have hold := (hg.cell (4)).trans (Array.getElem?_eq_getElem (show 4 < _ by rw [putH_size, dig_size, hx]; omega))
 go_simp
 clear hfr hold
 clear q26
 refine hK _ _ ?_
 clear hK K
 change wpList _ _ _ _ a _
 replace hG := hG.set (4) (.int .u32 1359893119)
 replace hg := hg.set_ (4) (.int .u32 1359893119)
 replace hg : Blk _ g 122 (putH sha0 (dig s x nx ln) 5) := hg
 revert hG hg
 generalize World.setCell _ _ _ = w
 intro hG hg
 refine wp_seq ?_
 refine fl2 [.eq 27 _, .eq 28 _, .eq 29 _, .eq 30 _] 4 hs hd zl
  ⟨(stp rfl fun a u hb hs hl hd K hK => by have s0 := gL hl 7; clear hd; go_simp; exact kE hK hs),
   (stp rfl fun a u hb hs hl hd K hK => by have s27 := gD hd 0; clear hd; go_simp; exact kE hK hs),
   (stp rfl fun a u hb hs hl hd K hK => by have s28 := gD hd 1; clear hd; go_simp; exact kE hK hs),
   (stp rfl fun a u hb hs hl hd K hK => by have s29 := gD hd 2; clear hd; go_simp; exact kE hK hs),
   trivial⟩ ?_
 clear hs hd zl
 intro a w hb hs hd zl hh
 replace zl := lH hh 3 zl
 clear hh
 replace hG := hG.after hb
 replace hg := hg.after hb
 clear hb
 show wpList _ _ _ [_] _ _
 refine tail_op rfl (fun K hK => ?_)
 have q30 := gL zl 0
 have hfr := hg.free (5)
 have hold := (hg.cell (5)).trans (Array.getElem?_eq_getElem (show 5 < _ by rw [putH_size, dig_size, hx]; omega))
 go_simp
 clear hfr hold
 clear q30
 refine hK _ _ ?_
 clear hK K
 change wpList _ _ _ _ a _
 replace hG := hG.set (5) (.int .u32 2600822924)
 replace hg := hg.set_ (5) (.int .u32 2600822924)
 replace hg : Blk _ g 122 (putH sha0 (dig s x nx ln) 6) := hg
 revert hG hg
 generalize World.setCell _ _ _ = w
 intro hG hg
 refine wp_seq ?_
 refine fl2 [.eq 31 _, .eq 32 _, .eq 33 _, .eq 34 _] 4 hs hd zl
  ⟨(stp rfl fun a u hb hs hl hd K hK => by have s0 := gL hl 8; clear hd; go_simp; exact kE hK hs),
   (stp rfl fun a u hb hs hl hd K hK => by have s31 := gD hd 0; clear hd; go_simp; exact kE hK hs),
   (stp rfl fun a u hb hs hl hd K hK => by have s32 := gD hd 1; clear hd; go_simp; exact kE hK hs),
   (stp rfl fun a u hb hs hl hd K hK => by have s33 := gD hd 2; clear hd; go_simp; exact kE hK hs),
   trivial⟩ ?_
 clear hs hd zl
 intro a w hb hs hd zl hh
 replace zl := lH hh 3 zl
 clear hh
 replace hG := hG.after hb
 replace hg := hg.after hb
 clear hb
 show wpList _ _ _ [_] _ _
 refine tail_op rfl (fun K hK => ?_)
 have q34 := gL zl 0
 have hfr := hg.free (6)
 have hold := (hg.cell (6)).trans (Array.getElem?_eq_getElem (show 6 < _ by rw [putH_size, dig_size, hx]; omega))
 go_simp
 clear hfr hold
 clear q34
 refine hK _ _ ?_
 clear hK K
 change wpList _ _ _ _ a _
 replace hG := hG.set (6) (.int .u32 528734635)
 replace hg := hg.set_ (6) (.int .u32 528734635)
 replace hg : Blk _ g 122 (putH sha0 (dig s x nx ln) 7) := hg
 revert hG hg
 generalize World.setCell _ _ _ = w
 intro hG hg
 refine fl2 [.eq 35 _, .eq 36 _, .eq 37 _, .eq 38 _] 4 hs hd zl
  ⟨(stp rfl fun a u hb hs hl hd K hK => by have s0 := gL hl 9; clear hd; go_simp; exact kE hK hs),
   (stp rfl fun a u hb hs hl hd K hK => by have s35 := gD hd 0; clear hd; go_simp; exact kE hK hs),
   (stp rfl fun a u hb hs hl hd K hK => by have s36 := gD hd 1; clear hd; go_simp; exact kE hK hs),
   (stp rfl fun a u hb hs hl hd K hK => by have s37 := gD hd 2; clear hd; go_simp; exact kE hK hs),
   trivial⟩ ?_
 clear hs hd zl
 intro a w hb hs hd zl hh
 replace zl := lH hh 3 zl
 clear hh
 replace hG := hG.after hb
 replace hg := hg.after hb
 clear hb
 show wpList _ _ _ [_] _ _
 refine tail_op rfl (fun K hK => ?_)
 have q38 := gL zl 0
 have hfr := hg.free (7)
 have hold := (hg.cell (7)).trans (Array.getElem?_eq_getElem (show 7 < _ by rw [putH_size, dig_size, hx]; omega))
 go_simp
 clear hfr hold
 clear q38
 refine hK _ _ ?_
 clear hK K
 change wpList _ _ _ _ a _
 replace hG := hG.set (7) (.int .u32 1541459225)
 replace hg := hg.set_ (7) (.int .u32 1541459225)
 replace hg : Blk _ g 122 (putH sha0 (dig s x nx ln) 8) := hg
 revert hG hg
 generalize World.setCell _ _ _ = w
 intro hG hg
 rw [putH_dig] at hg
 refine wp_seq ?_
 refine fl2 [.eq 71 _, .eq 72 _, .eq 73 _] 3 hs hd zl
  ⟨(stp rfl fun a u hb hs hl hd K hK => by have s0 := gL hl 10; clear hd; go_simp; exact kE hK hs),
   (stp rfl fun a u hb hs hl hd K hK => by have s71 := gD hd 0; clear hd; go_simp; exact kE hK hs),
   (stp rfl fun a u hb hs hl hd K hK => by have s72 := gD hd 1; clear hd; go_simp; exact kE hK hs),
   trivial⟩ ?_
 clear hs hd zl
 intro a w hb hs hd zl hh
 replace zl := lH hh 2 zl
 clear hh
 replace hG := hG.after hb
 replace hg := hg.after hb
 clear hb
 show wpList _ _ _ [_] _ _
 refine tail_op rfl (fun K hK => ?_)
 have q73 := gL zl 0
 have hfr := hg.free (72)
 have hold := (hg.cell (72)).trans (Array.getElem?_eq_getElem (show 72 < _ by rw [dig_size, hx]; omega))
 go_simp
 clear hfr hold
 clear q73
 refine hK _ _ ?_
 clear hK K
 change wpList _ _ _ _ a _
 replace hG := hG.set (72) (.int .i64 0)
 replace hg := hg.set_ (72) (.int .i64 0)
 rw [dig_nx _ _ _ _ _ hx] at hg
 revert hG hg
 generalize World.setCell _ _ _ = w
 intro hG hg
 refine fl2 [.eq 74 _, .eq 75 _, .eq 76 _] 3 hs hd zl
  ⟨(stp rfl fun a u hb hs hl hd K hK => by have s0 := gL hl 11; clear hd; go_simp; exact kE hK hs),
   (stp rfl fun a u hb hs hl hd K hK => by have s74 := gD hd 0; clear hd; go_simp; exact kE hK hs),
   (stp rfl fun a u hb hs hl hd K hK => by have s75 := gD hd 1; clear hd; go_simp; exact kE hK hs),
   trivial⟩ ?_
 clear hs hd zl
 intro a w hb hs hd zl hh
 replace zl := lH hh 2 zl
 clear hh
 replace hG := hG.after hb
 replace hg := hg.after hb
 clear hb
 show wpList _ _ _ [_] _ _
 refine tail_op rfl (fun K hK => ?_)
 have q76 := gL zl 0
 have hfr := hg.free (73)
 have hold := (hg.cell (73)).trans (Array.getElem?_eq_getElem (show 73 < _ by rw [dig_size, hx]; omega))
 go_simp
 clear hfr hold
 clear q76
 refine hK _ _ ?_
 clear hK K
 change wpList _ _ _ _ a _
 replace hG := hG.set (73) (.int .u64 0)
 replace hg := hg.set_ (73) (.int .u64 0)
 rw [dig_ln _ _ _ _ _ hx] at hg
 revert hG hg
 generalize World.setCell _ _ _ = w
 intro hG hg
 exact end_none rfl hd ⟨rfl, hG, x, ⟨hx, hx1⟩, hg, fun j hj => absurd hj (by simp)⟩

theorem c_shaBlock (g b o : Nat) (s : ShaSt) (x : Array Value) (nx ln : Int) (c : Nat) (l : List Int) (w : World) (hl : l.length % 64 = 0) (hlen : l.length ≤ 1000000000000) (hcap : l.length ≤ c)
  (hg : Blk w g 122 (dig s x nx ln)) (hx : x.size = 64) (hl8 : Bytes l) (hP : BytesAt w b o l 0 l.length) (hbs : b < w.heap.size) (hKt : KTab w 0) :
  Calls Tryd.prog 79 #[.pointer (some ⟨g, 0, none⟩), .slice (some ⟨b, o, none⟩) l.length c] w fun e w' => e = .returned (.tuple #[]) ∧ w.grownBy w' (some g) ∧ Blk w' g 122 (dig (shaBlks l 0 (l.length / 64) s) x nx ln) := by
 go_enter Tryd.func79, Tryd.ntmps79
 go_wp2_with (go_at_call 81; (with_reducible refine (c_blockGeneric g b o s x nx ln c l w hl hlen hcap hg hx hl8 hP hbs hKt).mono ?_); rintro e w1 ⟨rfl, h1, h2⟩)
 exact end_none rfl ⟨rfl⟩ ⟨rfl, h1, h2⟩
theorem c_shaBlockN (g b o : Nat) (s : ShaSt) (x : Array Value) (nx ln : Int) (N c : Nat) (l : List Int) (w : World) (hN : l.length = N) (hl : N % 64 = 0) (hlen : N ≤ 1000000000000) (hcap : N ≤ c)
  (hg : Blk w g 122 (dig s x nx ln)) (hx : x.size = 64) (hl8 : Bytes l) (hP : BytesAt w b o l 0 N) (hbs : b < w.heap.size) (hKt : KTab w 0) :
  Calls Tryd.prog 79 #[.pointer (some ⟨g, 0, none⟩), .slice (some ⟨b, o, none⟩) N c] w fun e w' => e = .returned (.tuple #[]) ∧ w.grownBy w' (some g) ∧ Blk w' g 122 (dig (shaBlks l 0 (N / 64) s) x nx ln) := by
 subst hN
 exact c_shaBlock g b o s x nx ln c l w hl hlen hcap hg hx hl8 hP hbs hKt

end Go.Proofs.YtcmllcmcbamlbaaDoor
namespace Go.Proofs.YtcmllcmcbamlbaaDoor
open Go.RowKit

noncomputable def wrA : Code := partAt [true, true, true, false] (Tryd.f77.body.getD .skip)
noncomputable def wrB : Code := partAt [true, true, true, true, false] (Tryd.f77.body.getD .skip)
noncomputable def wrC : Code := partAt [true, true, true, true, true, false] (Tryd.f77.body.getD .skip)
set_option maxHeartbeats 4000000 in
set_option maxRecDepth 100000 in
theorem wr_C {Q : Exit → Act → World → Prop} {n : Nat} {P : Option Addr} {g b o c : Nat} {m p M : List Int} {v4 v5 : Value} {w0 : World} (a : Act) (w : World) (hs : SzIs a 95) (hd : DfNil a)
  (s0 : a.tmps.getD 0 undef = .pointer (some ⟨g, 0, none⟩)) (s1 : a.tmps.getD 1 undef = .slice P n c) (s4 : a.tmps.getD 4 undef = v4) (s5 : a.tmps.getD 5 undef = v5)
  (hM : Is M (m ++ p)) (hMl : m.length + p.length = M.length) (hlen : M.length ≤ 1000000000000) (hM8 : Bytes M) (hG : GB w0 w g) (hP : BytesAt w0 b o p 0 p.length) (hbg : 0 < p.length → b ≠ g) (hKt : KTab w0 0) (hg0 : g ≠ 0) (hcap : n ≤ c) (hP' : n = 0 ∨ P = some ⟨b, o + (p.length - n), none⟩) (hn : n ≤ p.length) (hn64 : n < 64) (hD : MidD w g M n)
  (hQ : ∀ (a : Act) (w : World), SzIs a 95 → DfNil a → LiveAll [(4, v4), (5, v5)] a → GB w0 w g → Dst w g M → Q .normal a w) : wrC.wp Tryd.prog Q a w := by
 conv => arg 2; whnf
 by_cases h0 : n = 0
 ·refine wp_seq ?_
  have hlt : decide ((0 : Int) < (n : Int)) = false := by simp; omega
  refine fl2 (F := [(0, _), (1, _), (4, _), (5, _)]) [.eq 83 _, .eq 84 _] 2 hs hd ⟨s0, s1, s4, s5, trivial⟩
   ⟨(stp rfl fun a u hb hs hl hd K hK => by have s1 := gL hl 1; clear hd; go_simp; exact kE hK hs),
    (stp rfl fun a u hb hs hl hd K hK => by have s83 := gD hd 0; clear hd; go_simp; exact kE hK hs),
    trivial⟩ ?_
  clear hs hd s0 s1 s4 s5
  intro a w hb hs hd zl hh
  replace zl := lH hh 1 zl
  clear hh
  replace hG := hG.after hb
  replace hD := hD.after hb
  clear hb
  show wpList _ _ _ [_] _ _
  refine tail_op rfl (fun K hK => ?_)
  have q84 := gL zl 0
  go_simp
  clear q84
  refine hK _ _ (tP hs hd zl ?_)
  clear hK K hs hd zl
  intro a hs hd zl
  clear hlt
  refine wp_cond_false (vL zl 0) ?_
  refine wp_skip ?_
  have hDst : Dst w g M := by
   rcases hD with ⟨_, h⟩ | ⟨x, k, ⟨hx, hx1⟩, hk, hg⟩
   ·exact h
   ·have h1 : M.length / 64 = k := by omega
    have h2 : M.length % 64 = 0 := by omega
    exact ⟨x, ⟨hx, hx1⟩, by rw [h1, h2]; exact hg, fun j hj => absurd hj (by omega)⟩
  obtain ⟨s85, -, s0, s1, s4, s5, -⟩ := zl
  exact hQ a w hs hd ⟨s4, s5, trivial⟩ hG hDst
 ·obtain rfl : P = some ⟨b, o + (p.length - n), none⟩ := hP'.resolve_left h0
  obtain ⟨x, k, ⟨hx, hx1⟩, hk, hg⟩ := hD.resolve_left (fun h => h0 h.1)
  obtain ⟨q, hq⟩ : ∃ q, Is (p.drop (p.length - n)) q := is_self _
  have hql : q.length = n := by rw [← hq.out, List.length_drop]; omega
  have hqM : ∀ j, q.getD j 0 = M.getD (64 * k + j) 0 := by
   intro j
   rw [← hq.out, getD_drop', hM.out, show 64 * k + j = m.length + (p.length - n + j) by omega, getD_app]
  have hPw : BytesAt w b (o + (p.length - n)) q 0 n := by
   have := (hP.gb0 hG hbg).sub (q := p.length - n) (m := n) (by omega)
   intro j hj
   rw [this j hj, ← hq.out, Nat.zero_add, Nat.zero_add, getD_drop']
  refine wp_seq ?_
  have hlt : decide (0 < n) = true := by simp; omega
  refine fl2 (F := [(0, _), (1, _), (4, _), (5, _)]) [.eq 83 _, .eq 84 _] 2 hs hd ⟨s0, s1, s4, s5, trivial⟩
   ⟨(stp rfl fun a u hb hs hl hd K hK => by have s1 := gL hl 1; clear hd; go_simp; exact kE hK hs),
    (stp rfl fun a u hb hs hl hd K hK => by have s83 := gD hd 0; clear hd; go_simp; exact kE hK hs),
    trivial⟩ ?_
  clear hs hd s0 s1 s4 s5
  intro a w hb hs hd zl hh
  replace zl := lH hh 1 zl
  clear hh
  replace hG := hG.after hb
  replace hg := hg.after hb
  replace hPw := hPw.after hb
  clear hb
  show wpList _ _ _ [_] _ _
  refine tail_op rfl (fun K hK => ?_)
  have q84 := gL zl 0
  go_simp
  clear q84
  refine hK _ _ (tP hs hd zl ?_)
  clear hK K hs hd zl
  intro a hs hd zl
  clear hlt
  refine wp_cond_true (vL zl 0) ?_
  refine fl2 [.eq 86 _, .eq 87 _, .eq 88 _, .eq 89 _, .eq 90 _, .eq 91 _] 6 hs hd zl
   ⟨(stp rfl fun a u hb hs hl hd K hK => by have s0 := gL hl 2; clear hd; go_simp; exact kE hK hs),
    (stp rfl fun a u hb hs hl hd K hK => by have s0 := gL hl 2; clear hd; go_simp; exact kE hK hs),
    (stp rfl fun a u hb hs hl hd K hK => by have s87 := gD hd 1; clear hd; go_simp; exact kE hK hs),
    (stp rfl fun a u hb hs hl hd K hK => by have s88 := gD hd 2; clear hd; go_simp; exact kE hK hs),
    (stp rfl fun a u hb hs hl hd K hK => by have s89 := gD hd 3; clear hd; go_simp; exact kE hK hs),
    (stp rfl fun a u hb hs hl hd K hK => by have s1 := gL hl 3; clear hd; go_simp; exact kE hK hs),
    trivial⟩ ?_
  clear hs hd zl
  intro a w hb hs hd zl hh
  replace zl := lH hh 0 zl
  replace zl := lH hh 4 zl
  replace zl := lH hh 5 zl
  clear hh
  replace hG := hG.after hb
  replace hg := hg.after hb
  replace hPw := hPw.after hb
  clear hb
  show wpList _ _ _ [_, _, _, _] _ _
  refine tail_op rfl (fun K hK => ?_)
  have q90 := gL zl 1
  have q91 := gL zl 0
  have s90 := vL zl 1
  have s91 := vL zl 0
  refine wp_copy_dig (off := 0) (dLen := 64) (dCap := 64) (.tmp 90) (.tmp 91) rfl s90 (by rw [hql]; exact s91) hg hx (by omega) (bs_of hPw hql) ?_
  intro w2 hg2 hb2
  rw [List.take_of_length_le (by omega : q.length ≤ 64)] at hb2
  rw [show min q.length 64 = n by omega]
  clear q90 q91
  refine hK _ _ (tP hs hd zl ?_)
  clear hK K hs hd zl s90 s91
  intro a hs hd zl
  replace hG := hG.trans hg2
  replace hg := hb2
  clear hg2 hPw
  obtain ⟨x2, hx2e⟩ : ∃ x2, Is (putX x 0 q) x2 := is_self _
  have hx2 : x2.size = 64 := by rw [← hx2e.out, putX_size x 0 q (by omega)]; exact hx
  have hx12 : One x2 := by rw [← hx2e.out]; exact hx1.putX 0 q
  rw [hx2e.out] at hg
  refine tail_op rfl (fun K hK => ?_)
  have q86 := gL zl 3
  go_simp
  clear q86
  refine hK _ _ (tP hs hd zl ?_)
  clear hK K hs hd zl
  intro a hs hd zl
  refine tail_op rfl (fun K hK => ?_)
  have q93 := gL zl 0
  go_simp
  clear q93
  refine hK _ _ (tP hs hd zl ?_)
  clear hK K hs hd zl
  intro a hs hd zl
  refine tail_op rfl (fun K hK => ?_)
  have q92 := gL zl 2
  have q94 := gL zl 0
  have hfr := hg.free (72)
  have hold := (hg.cell (72)).trans (Array.getElem?_eq_getElem (show 72 < _ by rw [dig_size, hx2]; omega))
  go_simp
  clear hfr hold
  clear q92 q94
  refine hK _ _ ?_
  clear hK K
  change wpList _ _ _ _ a _
  replace hG := hG.set (72) (.int .i64 ((n : Nat) : Int))
  replace hg := hg.set_ (72) (.int .i64 ((n : Nat) : Int))
  rw [dig_nx _ _ _ _ _ hx2] at hg
  revert hG hg
  generalize World.setCell _ _ _ = w
  intro hG hg
  have h1 : M.length / 64 = k := by omega
  have h2 : M.length % 64 = n := by omega
  obtain ⟨-, -, -, -, -, -, -, -, -, -, s4, s5, -⟩ := zl
  refine hQ a _ hs hd ⟨s4, s5, trivial⟩ hG ⟨x2, ⟨hx2, hx12⟩, by rw [h1, h2]; exact hg, fun j hj => ?_⟩
  rw [h2] at hj
  have := putX_in x 0 q (by omega) j (by omega)
  rw [Nat.zero_add, hx2e.out] at this
  rw [this, h1, hqM]
set_option maxHeartbeats 4000000 in
set_option maxRecDepth 100000 in
theorem wr_B {Q : Exit → Act → World → Prop} {n : Nat} {P : Option Addr} {g b o c : Nat} {m p M : List Int} {v4 v5 : Value} {w0 : World} (a : Act) (w : World) (hs : SzIs a 95) (hd : DfNil a)
  (s0 : a.tmps.getD 0 undef = .pointer (some ⟨g, 0, none⟩)) (s1 : a.tmps.getD 1 undef = .slice P n c) (s4 : a.tmps.getD 4 undef = v4) (s5 : a.tmps.getD 5 undef = v5)
  (hM : Is M (m ++ p)) (hMl : m.length + p.length = M.length) (hlen : M.length ≤ 1000000000000) (hM8 : Bytes M) (hG : GB w0 w g) (hP : BytesAt w0 b o p 0 p.length) (hbg : 0 < p.length → b ≠ g) (hKt : KTab w0 0) (hg0 : g ≠ 0) (hbs : 0 < p.length → b < w0.heap.size) (hcap : n ≤ c) (hP' : n = 0 ∨ P = some ⟨b, o + (p.length - n), none⟩) (hn : n ≤ p.length) (hD : MidD w g M n)
  (hQ : ∀ (a : Act) (w : World) (P : Option Addr) (n c : Nat), (n = 0 ∨ P = some ⟨b, o + (p.length - n), none⟩) → n ≤ p.length → n < 64 → n ≤ c → SzIs a 95 → DfNil a → LiveAll [(0, .pointer (some ⟨g, 0, none⟩)), (1, .slice P n c), (4, v4), (5, v5)] a → GB w0 w g → MidD w g M n → Q .normal a w) : wrB.wp Tryd.prog Q a w := by
 conv => arg 2; whnf
 by_cases h64 : n < 64
 ·refine wp_seq ?_
  have hlt : decide ((64 : Int) ≤ (n : Int)) = false := by simp; omega
  refine fl2 (F := [(0, _), (1, _), (4, _), (5, _)]) [.eq 59 _, .eq 60 _] 2 hs hd ⟨s0, s1, s4, s5, trivial⟩
   ⟨(stp rfl fun a u hb hs hl hd K hK => by have s1 := gL hl 1; clear hd; go_simp; exact kE hK hs),
    (stp rfl fun a u hb hs hl hd K hK => by have s59 := gD hd 0; clear hd; go_simp; exact kE hK hs),
    trivial⟩ ?_
  clear hs hd s0 s1 s4 s5
  intro a w hb hs hd zl hh
  replace zl := lH hh 1 zl
  clear hh
  replace hG := hG.after hb
  replace hD := hD.after hb
  clear hb
  show wpList _ _ _ [_] _ _
  refine tail_op rfl (fun K hK => ?_)
  have q60 := gL zl 0
  go_simp
  clear q60
  refine hK _ _ (tP hs hd zl ?_)
  clear hK K hs hd zl
  intro a hs hd zl
  clear hlt
  refine wp_cond_false (vL zl 0) ?_
  refine wp_skip ?_
  obtain ⟨s61, -, s0, s1, s4, s5, -⟩ := zl
  exact hQ a w P n c hP' hn h64 hcap hs hd ⟨s0, s1, s4, s5, trivial⟩ hG hD
 ·obtain rfl : P = some ⟨b, o + (p.length - n), none⟩ := hP'.resolve_left (by omega)
  clear hP'
  refine wp_seq ?_
  have hlt : decide ((64 : Int) ≤ (n : Int)) = true := by simp; omega
  refine fl2 (F := [(0, _), (1, _), (4, _), (5, _)]) [.eq 59 _, .eq 60 _] 2 hs hd ⟨s0, s1, s4, s5, trivial⟩
   ⟨(stp rfl fun a u hb hs hl hd K hK => by have s1 := gL hl 1; clear hd; go_simp; exact kE hK hs),
    (stp rfl fun a u hb hs hl hd K hK => by have s59 := gD hd 0; clear hd; go_simp; exact kE hK hs),
    trivial⟩ ?_
  clear hs hd s0 s1 s4 s5
  intro a w hb hs hd zl hh
  replace zl := lH hh 1 zl
  clear hh
  replace hG := hG.after hb
  replace hD := hD.after hb
  clear hb
  show wpList _ _ _ [_] _ _
  refine tail_op rfl (fun K hK => ?_)
  have q60 := gL zl 0
  go_simp
  clear q60
  refine hK _ _ (tP hs hd zl ?_)
  clear hK K hs hd zl
  intro a hs hd zl
  clear hlt
  refine wp_cond_true (vL zl 0) ?_
  refine wp_seq ?_
  have hAN := andNot63 n (by omega)
  refine fl2 [.eq 62 _, .eq 63 _, .eq 64 _] 3 hs hd zl
   ⟨(stp rfl fun a u hb hs hl hd K hK => by have s1 := gL hl 3; clear hd; go_simp; exact kE hK hs),
    (stp rfl fun a u hb hs hl hd K hK => by have s62 := gD hd 0; clear hd; go_simp; exact kE hK hs),
    (stp rfl fun a u hb hs hl hd K hK => by have s63 := gD hd 1; clear hd; go_simp; exact kE hK hs),
    trivial⟩ ?_
  clear hs hd zl
  intro a w hb hs hd zl hh
  replace zl := lH hh 2 zl
  clear hh
  replace hG := hG.after hb
  replace hD := hD.after hb
  clear hb
  show wpList _ _ _ [_] _ _
  refine tail_op rfl (fun K hK => ?_)
  have q64 := gL zl 0
  go_simp
  clear q64
  refine hK _ _ (tP hs hd zl ?_)
  clear hK K hs hd zl
  intro a hs hd zl
  clear hAN
  refine wp_seq ?_
  refine wp_block ?_
  obtain ⟨s7, -, -, -, s0, s1, s4, s5, -⟩ := zl
  refine wp_loop (fun a w => ∃ n' c' t : Nat, n' ≤ p.length ∧ n' ≤ c' ∧ t ≤ n' ∧ n' - t < 64 ∧ 64 ≤ t ∧ Is (t % 64) 0 ∧ SzIs a 95 ∧ DfNil a ∧ LiveAll [(0, .pointer (some ⟨g, 0, none⟩)), (1, .slice (some ⟨b, o + (p.length - n'), none⟩) n' c'), (4, v4), (5, v5), (7, .int .i64 ((t : Nat) : Int))] a ∧ GB w0 w g ∧ MidD w g M n')
   (fun a _ => (intOf (a.tmps.getD 7 undef)).toNat) ⟨n, c, n - n % 64, hn, hcap, by omega, by omega, by omega, by unfold Is; omega, hs, hd, ⟨s0, s1, s4, s5, s7, trivial⟩, hG, hD⟩ ?_
  clear hs hd s0 s1 s4 s5 s7 hG hD hcap hn h64 a w
  rintro a w ⟨n', c', t, hn, hcap, ht, htn, ht64, htm, hs, hd, ⟨s0, s1, s4, s5, s7, -⟩, hG, hD⟩
  have hmu : (intOf (a.tmps.getD 7 undef)).toNat = t := by rw [s7]; simp [intOf]
  by_cases hbig : 65536 < t
  ·obtain ⟨mu, hmu2⟩ : ∃ x, Is (intOf (a.tmps.getD 7 undef)).toNat x := is_self _
   have hmt : Is t mu := hmu.symm.trans hmu2.out
   clear hmu
   refine wp_seq ?_
   refine wp_seq ?_
   have hlt : decide ((65536 : Int) < (t : Int)) = true := by simp; omega
   refine fl2 (F := [(0, _), (1, _), (4, _), (5, _), (7, _)]) [.eq 65 _] 1 hs hd ⟨s0, s1, s4, s5, s7, trivial⟩
    ⟨(stp rfl fun a u hb hs hl hd K hK => by have s7 := gL hl 4; clear hd; go_simp; exact kE hK hs),
     trivial⟩ ?_
   clear hs hd s0 s1 s4 s5 s7
   intro a w hb hs hd zl hh
   replace zl := lH hh 0 zl
   clear hh
   replace hG := hG.after hb
   replace hD := hD.after hb
   clear hb
   show wpList _ _ _ [_] _ _
   refine tail_op rfl (fun K hK => ?_)
   have q65 := gL zl 0
   go_simp
   clear q65
   refine hK _ _ (tP hs hd zl ?_)
   clear hK K hs hd zl
   intro a hs hd zl
   clear hlt
   refine wp_cond_true (vL zl 0) ?_
   refine wp_skip ?_
   refine wp_block ?_
   refine wp_seq ?_
   obtain ⟨x, k, ⟨hx, hx1⟩, hk, hg⟩ := hD.resolve_left (fun h => absurd h.1 (by omega))
   have hPw : BytesAt w b (o + (p.length - n')) (piece M k (65536 / 64)) 0 (65536) := by
    have h1 := (hP.gb0 hG hbg).sub (q := p.length - n') (m := 65536) (by have := htm.out; omega)
    intro j hj
    rw [h1 j hj, Nat.zero_add, Nat.zero_add, piece_get _ _ _ _ (by have := htm.out; omega), hM.out, show 64 * k + j = m.length + (p.length - n' + j) by have := htm.out; omega, getD_app]
   have hq1 : (65536 : Int) ≤ (c' : Int) := by omega
   have hq2 : (65536 : Int) ≤ (n' : Int) := by omega
   refine fl2 [.eq 67 _, .eq 68 _, .eq 69 _] 3 hs hd zl
    ⟨(stp rfl fun a u hb hs hl hd K hK => by have s0 := gL hl 2; clear hd; go_simp; exact kE hK hs),
     (stp rfl fun a u hb hs hl hd K hK => by have s1 := gL hl 3; clear hd; go_simp; exact kE hK hs),
     (stp rfl fun a u hb hs hl hd K hK => by have s68 := gD hd 1; clear hd; go_simp; exact kE hK hs),
     trivial⟩ ?_
   clear hs hd zl
   intro a w hb hs hd zl hh
   replace zl := lH hh 0 zl
   replace zl := lH hh 2 zl
   clear hh
   replace hG := hG.after hb
   replace hD := hD.after hb
   replace hg := hg.after hb
   replace hPw := hPw.after hb
   clear hb
   show wpList _ _ _ [_] _ _
   refine tail_op rfl (fun K hK => ?_)
   have q67 := gL zl 1
   have q69 := gL zl 0
   go_simp
   refine (c_shaBlockN g b (o + (p.length - n')) (shaBlks M 0 k sha0) x 0 ((M.length : Nat) : Int) (65536) c' (piece M k (65536 / 64)) _ ((piece_length _ _ _ (by have := htm.out; omega)).trans (by have := htm.out; omega)) (by have := htm.out; omega) (by have := htm.out; omega) (by have := htm.out; omega) hg hx (piece_bytes hM8 _ _) hPw (Nat.lt_of_lt_of_le (hbs (by omega)) hG.size) (hKt.gb hG (fun e => hg0 e.symm))).mono ?_
   rintro e w2 ⟨rfl, hg2, hb2⟩
   clear q67 q69
   refine hK _ _ (tP hs hd zl ?_)
   clear hK K hs hd zl
   intro a hs hd zl
   replace hG := hG.trans hg2
   rw [shaBlks_piece] at hb2
   clear hg hPw hg2
   replace hD : MidD _ g M (n' - 65536) := .inr ⟨x, k + 65536 / 64, ⟨hx, hx1⟩, by have := htm.out; omega, hb2⟩
   clear hb2
   refine wp_seq ?_
   have hq1 : (65536 : Int) ≤ (c' : Int) := by omega
   have hq2 : (65536 : Int) ≤ (n' : Int) := by omega
   have hq3 : (n' : Int) ≤ (c' : Int) := by omega
   refine fl2 [.eq 71 _, .eq 72 _] 2 hs hd zl
    ⟨(stp rfl fun a u hb hs hl hd K hK => by have s1 := gL hl 6; clear hd; go_simp; exact kE hK hs),
     (stp rfl fun a u hb hs hl hd K hK => by have s71 := gD hd 0; clear hd; go_simp; exact kE hK hs),
     trivial⟩ ?_
   clear hs hd zl
   intro a w hb hs hd zl hh
   replace zl := lH hh 1 zl
   clear hh
   replace hG := hG.after hb
   replace hD := hD.after hb
   clear hb
   show wpList _ _ _ [_] _ _
   refine tail_op rfl (fun K hK => ?_)
   have q72 := gL zl 0
   go_simp
   clear q72
   refine hK _ _ ?_
   clear hK K
   obtain ⟨s72, -, -, -, -, -, s0, s1, s4, s5, s7, -⟩ := zl
   refine act_put (d := 1) _ hs hd (by decide) [(0, _), (4, _), (5, _), (7, _), (72, _)] ⟨s0, s4, s5, s7, s72, trivial⟩ rfl ?_
   clear hs hd s0 s1 s4 s5 s7 s72
   intro a hs hd zl
   clear hq1 hq2 hq3
   have hw : IntKind.i64.wrap ((t : Int) - 65536) = ((t - 65536 : Nat) : Int) := by rw [IntWalk.i64_in _ (by omega)]; omega
   refine fl2 [.eq 73 _, .eq 74 _] 2 hs hd zl
    ⟨(stp rfl fun a u hb hs hl hd K hK => by have s7 := gL hl 4; clear hd; go_simp; exact kE hK hs),
     (stp rfl fun a u hb hs hl hd K hK => by have s73 := gD hd 0; clear hd; go_simp; exact kE hK hs),
     trivial⟩ ?_
   clear hs hd zl
   intro a w hb hs hd zl hh
   replace zl := lH hh 1 zl
   clear hh
   replace hG := hG.after hb
   replace hD := hD.after hb
   clear hb
   show wpList _ _ _ [_] _ _
   refine tail_op rfl (fun K hK => ?_)
   have q74 := gL zl 0
   go_simp
   clear q74
   refine hK _ _ ?_
   clear hK K
   obtain ⟨s74, s1, s0, s4, s5, s7, -, -⟩ := zl
   refine act_put (d := 7) _ hs hd (by decide) [(0, _), (1, _), (4, _), (5, _), (74, _)] ⟨s0, s1, s4, s5, s74, trivial⟩ rfl ?_
   clear hs hd s0 s1 s4 s5 s7 s74
   intro a hs hd zl
   clear hw
   obtain ⟨s7, s0, s1, s4, s5, -, -⟩ := zl
   rw [if_neg (by omega), show o + (p.length - n') + 65536 = o + (p.length - (n' - 65536)) by omega] at s1
   refine ⟨⟨n' - 65536, c' - 65536, t - 65536, by omega, by omega, by omega, by omega, by have := htm.out; omega, by have := htm.out; unfold Is; omega, hs, hd, ⟨s0, s1, s4, s5, s7, trivial⟩, hG, hD⟩, ?_⟩
   rw [s7, hmu2.out, ← hmt.out]
   simp [intOf]
   omega
  ·clear hmu
   refine wp_seq ?_
   refine wp_seq ?_
   have hlt : decide ((65536 : Int) < (t : Int)) = false := by simp; omega
   refine fl2 (F := [(0, _), (1, _), (4, _), (5, _), (7, _)]) [.eq 65 _] 1 hs hd ⟨s0, s1, s4, s5, s7, trivial⟩
    ⟨(stp rfl fun a u hb hs hl hd K hK => by have s7 := gL hl 4; clear hd; go_simp; exact kE hK hs),
     trivial⟩ ?_
   clear hs hd s0 s1 s4 s5 s7
   intro a w hb hs hd zl hh
   replace zl := lH hh 0 zl
   clear hh
   replace hG := hG.after hb
   replace hD := hD.after hb
   clear hb
   show wpList _ _ _ [_] _ _
   refine tail_op rfl (fun K hK => ?_)
   have q65 := gL zl 0
   go_simp
   clear q65
   refine hK _ _ (tP hs hd zl ?_)
   clear hK K hs hd zl
   intro a hs hd zl
   clear hlt
   refine wp_cond_false (vL zl 0) ?_
   refine wp_exit ?_
   repeat refine then_exit ?_
   refine inBlock_exit ?_
   refine wp_seq ?_
   obtain ⟨x, k, ⟨hx, hx1⟩, hk, hg⟩ := hD.resolve_left (fun h => absurd h.1 (by omega))
   have hPw : BytesAt w b (o + (p.length - n')) (piece M k (t / 64)) 0 (t) := by
    have h1 := (hP.gb0 hG hbg).sub (q := p.length - n') (m := t) (by have := htm.out; omega)
    intro j hj
    rw [h1 j hj, Nat.zero_add, Nat.zero_add, piece_get _ _ _ _ (by have := htm.out; omega), hM.out, show 64 * k + j = m.length + (p.length - n' + j) by have := htm.out; omega, getD_app]
   have hq1 : (t : Int) ≤ (c' : Int) := by omega
   have hq2 : (t : Int) ≤ (n' : Int) := by omega
   refine fl2 [.eq 75 _, .eq 76 _, .eq 77 _, .eq 78 _] 4 hs hd zl
    ⟨(stp rfl fun a u hb hs hl hd K hK => by have s0 := gL hl 2; clear hd; go_simp; exact kE hK hs),
     (stp rfl fun a u hb hs hl hd K hK => by have s1 := gL hl 3; clear hd; go_simp; exact kE hK hs),
     (stp rfl fun a u hb hs hl hd K hK => by have s7 := gL hl 6; clear hd; go_simp; exact kE hK hs),
     (stp rfl fun a u hb hs hl hd K hK => by have s76 := gD hd 1; have s77 := gD hd 2; clear hd; go_simp; exact kE hK hs),
     trivial⟩ ?_
   clear hs hd zl
   intro a w hb hs hd zl hh
   replace zl := lH hh 0 zl
   replace zl := lH hh 3 zl
   clear hh
   replace hG := hG.after hb
   replace hD := hD.after hb
   replace hg := hg.after hb
   replace hPw := hPw.after hb
   clear hb
   show wpList _ _ _ [_] _ _
   refine tail_op rfl (fun K hK => ?_)
   have q75 := gL zl 1
   have q78 := gL zl 0
   go_simp
   refine (c_shaBlockN g b (o + (p.length - n')) (shaBlks M 0 k sha0) x 0 ((M.length : Nat) : Int) (t) c' (piece M k (t / 64)) _ ((piece_length _ _ _ (by have := htm.out; omega)).trans (by have := htm.out; omega)) (by have := htm.out; omega) (by have := htm.out; omega) (by have := htm.out; omega) hg hx (piece_bytes hM8 _ _) hPw (Nat.lt_of_lt_of_le (hbs (by omega)) hG.size) (hKt.gb hG (fun e => hg0 e.symm))).mono ?_
   rintro e w2 ⟨rfl, hg2, hb2⟩
   clear q75 q78
   refine hK _ _ (tP hs hd zl ?_)
   clear hK K hs hd zl
   intro a hs hd zl
   replace hG := hG.trans hg2
   rw [shaBlks_piece] at hb2
   clear hg hPw hg2
   replace hD : MidD _ g M (n' - t) := .inr ⟨x, k + t / 64, ⟨hx, hx1⟩, by have := htm.out; omega, hb2⟩
   clear hb2
   have hq1 : (t : Int) ≤ (c' : Int) := by omega
   have hq2 : (t : Int) ≤ (n' : Int) := by omega
   have hq3 : (n' : Int) ≤ (c' : Int) := by omega
   refine fl2 [.eq 80 _, .eq 81 _, .eq 82 _] 3 hs hd zl
    ⟨(stp rfl fun a u hb hs hl hd K hK => by have s1 := gL hl 6; clear hd; go_simp; exact kE hK hs),
     (stp rfl fun a u hb hs hl hd K hK => by have s7 := gL hl 9; clear hd; go_simp; exact kE hK hs),
     (stp rfl fun a u hb hs hl hd K hK => by have s80 := gD hd 0; have s81 := gD hd 1; clear hd; go_simp; exact kE hK hs),
     trivial⟩ ?_
   clear hs hd zl
   intro a w hb hs hd zl hh
   replace zl := lH hh 2 zl
   clear hh
   replace hG := hG.after hb
   replace hD := hD.after hb
   clear hb
   show wpList _ _ _ [_] _ _
   refine tail_op rfl (fun K hK => ?_)
   have q82 := gL zl 0
   go_simp
   clear q82
   refine hK _ _ ?_
   clear hK K
   obtain ⟨s82, -, -, -, -, -, s0, s1, s4, s5, -, -⟩ := zl
   refine act_put (d := 1) _ hs hd (by decide) [(0, _), (4, _), (5, _), (82, _)] ⟨s0, s4, s5, s82, trivial⟩ rfl ?_
   clear hs hd s0 s1 s4 s5 s82
   intro a hs hd zl
   clear hq1 hq2 hq3
   obtain ⟨s1, s0, s4, s5, -, -⟩ := zl
   refine hQ a w _ (n' - t) (c' - t) ?_ (by omega) htn (by omega) hs hd ⟨s0, s1, s4, s5, trivial⟩ hG hD
   by_cases h : n' - t = 0
   ·exact .inl h
   ·exact .inr (by rw [if_neg (by omega), show o + (p.length - n') + t = o + (p.length - (n' - t)) by omega])
end Go.Proofs.YtcmllcmcbamlbaaDoor
