/- SHA-256 of the package: blockGeneric. (Printed by gen_block.py.) A law for a region whose writing operations follow one another (a chain), whatever else may float: what holds of the world is said by how many of the chain have come up. SHA-256 of the package: blockGeneric, whole. (Printed by gen_block.py.) Digests of the package: what they have taken up; bytes copied into one. -/
import Derived.Test.YtjhnnjhaklohhaaGreatDoorM1
import Derived.Laws.CopyOwn
set_option linter.unusedVariables false
set_option linter.unusedSimpArgs false
set_option maxHeartbeats 4000000
set_option maxRecDepth 100000
namespace Go.Proofs.YtjhnnjhaklohhaaGreatDoor
open Go.RowKit
noncomputable def bgBody:Code:=((Tryz.f99.body.bind (loopIn 2)).getD .skip)
theorem bg_lo{Q:Exit→Act→World→Prop}{x0 x5 x6 x7 x8 x9 x10 x11 x12:Value}{A:Option Addr}{b o p n' c' B k:Nat}{l:List Int}{R:ShaSt}{w0:World}(a:Act)(w:World)(hs:SzIs a 283)(hd:DfNil a)
  (s0:a.tmps.getD 0 undef=x0)(s1:a.tmps.getD 1 undef=.slice (some ⟨b,o,none⟩) n' c')(s4:a.tmps.getD 4 undef=.pointer (some ⟨B,0,none⟩))(s5:a.tmps.getD 5 undef=x5)(s6:a.tmps.getD 6 undef=x6)(s7:a.tmps.getD 7 undef=x7)(s8:a.tmps.getD 8 undef=x8)(s9:a.tmps.getD 9 undef=x9)(s10:a.tmps.getD 10 undef=x10)(s11:a.tmps.getD 11 undef=x11)(s12:a.tmps.getD 12 undef=x12)(s13:a.tmps.getD 13 undef=.int .u32 R.a)(s14:a.tmps.getD 14 undef=.int .u32 R.b)(s15:a.tmps.getD 15 undef=.int .u32 R.c)(s16:a.tmps.getD 16 undef=.int .u32 R.d)(s17:a.tmps.getD 17 undef=.int .u32 R.e)(s18:a.tmps.getD 18 undef=.int .u32 R.f)(s19:a.tmps.getD 19 undef=.int .u32 R.g)(s20:a.tmps.getD 20 undef=.int .u32 R.h)(s80:a.tmps.getD 80 undef=.int .i64 k)
  (hk:k<64)(hk16:k<16)(hn:64≤n')(hn':n'≤1000000000000)(hP:BytesAt w b o l p 64)(hbB:b≠B)(hl8:Bytes l)(hG:GB w0 w B)(hS:Sched w B 99 l p k)(hKt:KTab w 1)(hB0:B≠1)
  (hQ:∀a w,SzIs a 283→DfNil a→LiveAll [(0,x0),(1,.slice (some ⟨b,o,none⟩) n' c'),(4,.pointer (some ⟨B,0,none⟩)),(5,x5),(6,x6),(7,x7),(8,x8),(9,x9),(10,x10),(11,x11),(12,x12),(13,.int .u32 (shaRnd (kTab.getD k 0) (wd l p k) R).a),(14,.int .u32 (shaRnd (kTab.getD k 0) (wd l p k) R).b),(15,.int .u32 (shaRnd (kTab.getD k 0) (wd l p k) R).c),(16,.int .u32 (shaRnd (kTab.getD k 0) (wd l p k) R).d),(17,.int .u32 (shaRnd (kTab.getD k 0) (wd l p k) R).e),(18,.int .u32 (shaRnd (kTab.getD k 0) (wd l p k) R).f),(19,.int .u32 (shaRnd (kTab.getD k 0) (wd l p k) R).g),(20,.int .u32 (shaRnd (kTab.getD k 0) (wd l p k) R).h),(80,.int .i64 ((k+1:Nat):Int))] a→GB w0 w B→Sched w B 99 l p (k+1)→Q .normal a w):
  bgBody.wp Tryz.prog Q a w:=by
 conv=>arg 2;whnf
 refine wp_seq ?_;have hdk:decide ((k:Int)<64)=true:=by simp;omega
 refine wp_region_list ?_;show wpList _ _ _ [_] _ _
 refine tail_op rfl (fun K hK=>?_);have q80:=gd s80;go_simp;clear q80;refine hK _ _ ?_;clear hK K;refine act_put (d:=81) _ hs hd (by decide) [(0,_),(1,_),(4,_),(5,_),(6,_),(7,_),(8,_),(9,_),(10,_),(11,_),(12,_),(13,_),(14,_),(15,_),(16,_),(17,_),(18,_),(19,_),(20,_),(80,_)] ⟨s0,s1,s4,s5,s6,s7,s8,s9,s10,s11,s12,s13,s14,s15,s16,s17,s18,s19,s20,s80,trivial⟩ rfl ?_;clear hs hd s0 s1 s4 s5 s6 s7 s8 s9 s10 s11 s12 s13 s14 s15 s16 s17 s18 s19 s20 s80;intro a hs hd zl;clear hdk;refine wp_seq ?_;refine wp_cond_true (vL zl 0) ?_;refine wp_skip ?_;refine wp_seq ?_;refine wp_block ?_;refine wp_seq ?_;refine fl2 [.eq 82 _] 1 hs hd zl
  ⟨sP bq,
   trivial⟩ ?_
 clear hs hd zl;intro a w hb hs hd zl hh;replace zl:=lH hh 0 zl;clear hh;replace hG:=hG.after hb;replace hS:=hS.after hb;replace hKt:=hKt.after hb;replace hP:=hP.after hb;clear hb;refine wn 1 ?_;clear hs hd zl;intro a hs hd zl;refine wp_seq ?_;refine wp_seq ?_;have hdk:decide ((k:Int)<16)=true:=by simp;omega
 refine fl2 [.eq 83 _] 1 hs hd zl
  ⟨sP bq,
   trivial⟩ ?_
 clear hs hd zl;intro a w hb hs hd zl hh;replace zl:=lH hh 0 zl;clear hh;replace hG:=hG.after hb;replace hS:=hS.after hb;replace hKt:=hKt.after hb;replace hP:=hP.after hb;clear hb;refine wn 1 ?_;clear hs hd zl;intro a hs hd zl;clear hdk;refine wp_cond_true (vL zl 0) ?_;refine wp_seq ?_;have i0w:IntKind.i64.wrap ((k:Int)*4)=(k:Int)*4:=IntWalk.i64_in _ (by omega);refine fl2 [.eq 85 _,.eq 86 _] 2 hs hd zl
  ⟨sP bq,
   sP bq,
   trivial⟩ ?_
 clear hs hd zl;intro a w hb hs hd zl hh;replace zl:=lH hh 1 zl;clear hh;replace hG:=hG.after hb;replace hS:=hS.after hb;replace hKt:=hKt.after hb;replace hP:=hP.after hb;clear hb;refine wn 1 ?_;clear hs hd zl;intro a hs hd zl;clear i0w;obtain⟨old,hold⟩:=hS.there hk;have cp0:=hP (k*4) (by omega);have cp1:=hP (k*4+1) (by omega);have cp2:=hP (k*4+2) (by omega);have cp3:=hP (k*4+3) (by omega);have i0l:0≤(k:Int)*4:=by omega
 have i0h:(k:Int)*4<(n':Int):=by omega
 have i1l:0≤(k:Int)*4+1:=by omega
 have i1h:(k:Int)*4+1<(n':Int):=by omega
 have i2l:0≤(k:Int)*4+2:=by omega
 have i2h:(k:Int)*4+2<(n':Int):=by omega
 have i3l:0≤(k:Int)*4+3:=by omega
 have i3h:(k:Int)*4+3<(n':Int):=by omega
 have ikh:(k:Int)<64:=by omega
 have i0t:Int.toNat ((k:Int)*4)=k*4:=by omega
 have i1w:IntKind.i64.wrap ((k:Int)*4+1)=(k:Int)*4+1:=IntWalk.i64_in _ (by omega);have i1t:Int.toNat ((k:Int)*4+1)=k*4+1:=by omega
 have i2w:IntKind.i64.wrap ((k:Int)*4+2)=(k:Int)*4+2:=IntWalk.i64_in _ (by omega);have i2t:Int.toNat ((k:Int)*4+2)=k*4+2:=by omega
 have i3w:IntKind.i64.wrap ((k:Int)*4+3)=(k:Int)*4+3:=IntWalk.i64_in _ (by omega);have i3t:Int.toNat ((k:Int)*4+3)=k*4+3:=by omega
 refine fl2 [.eq 87 _,.eq 88 _,.eq 89 _,.eq 90 _,.eq 91 _,.eq 92 _,.eq 93 _,.eq 94 _,.eq 95 _,.eq 96 _,.eq 97 _,.eq 98 _,.eq 99 _,.eq 100 _,.eq 101 _,.eq 102 _,.eq 103 _,.eq 104 _,.eq 105 _,.eq 106 _,.eq 107 _,.eq 108 _,.eq 109 _,.eq 110 _,.eq 111 _,.eq 112 _,.eq 113 _,.eq 114 _,.eq 115 _,.eq 116 _,.eq 117 _] 31 hs hd zl
  ⟨sP bq,
   sP bq,
   sP bq,
   sP bq,
   (stp rfl fun a u hb hs hl hd K hK=>by have s90:=gD hd 3;have cp0:=cell_up hb cp0;have cp1:=cell_up hb cp1;have cp2:=cell_up hb cp2;have cp3:=cell_up hb cp3;have hold:=cell_up hb hold;clear hd;go_simp;exact kE hK hs),
   (stp rfl fun a u hb hs hl hd K hK=>by have s91:=gD hd 4;clear hd;go_simp;exact kE hK hs),
   (stp rfl fun a u hb hs hl hd K hK=>by have s92:=gD hd 5;clear hd;go_simp;exact kE hK hs),
   (stp rfl fun a u hb hs hl hd K hK=>by have s1:=gL hl 8;clear hd;go_simp;exact kE hK hs),
   (stp rfl fun a u hb hs hl hd K hK=>by have s22:=gL hl 0;clear hd;go_simp;exact kE hK hs),
   (stp rfl fun a u hb hs hl hd K hK=>by have s95:=gD hd 8;clear hd;go_simp;exact kE hK hs),
   (stp rfl fun a u hb hs hl hd K hK=>by have s94:=gD hd 7;have s96:=gD hd 9;clear hd;go_simp;exact kE hK hs),
   (stp rfl fun a u hb hs hl hd K hK=>by have s97:=gD hd 10;have cp0:=cell_up hb cp0;have cp1:=cell_up hb cp1;have cp2:=cell_up hb cp2;have cp3:=cell_up hb cp3;have hold:=cell_up hb hold;clear hd;go_simp;exact kE hK hs),
   (stp rfl fun a u hb hs hl hd K hK=>by have s98:=gD hd 11;clear hd;go_simp;exact kE hK hs),
   (stp rfl fun a u hb hs hl hd K hK=>by have s99:=gD hd 12;clear hd;go_simp;exact kE hK hs),
   (stp rfl fun a u hb hs hl hd K hK=>by have s93:=gD hd 6;have s100:=gD hd 13;clear hd;go_simp;exact kE hK hs),
   (stp rfl fun a u hb hs hl hd K hK=>by have s1:=gL hl 8;clear hd;go_simp;exact kE hK hs),
   (stp rfl fun a u hb hs hl hd K hK=>by have s22:=gL hl 0;clear hd;go_simp;exact kE hK hs),
   (stp rfl fun a u hb hs hl hd K hK=>by have s103:=gD hd 16;clear hd;go_simp;exact kE hK hs),
   (stp rfl fun a u hb hs hl hd K hK=>by have s102:=gD hd 15;have s104:=gD hd 17;clear hd;go_simp;exact kE hK hs),
   (stp rfl fun a u hb hs hl hd K hK=>by have s105:=gD hd 18;have cp0:=cell_up hb cp0;have cp1:=cell_up hb cp1;have cp2:=cell_up hb cp2;have cp3:=cell_up hb cp3;have hold:=cell_up hb hold;clear hd;go_simp;exact kE hK hs),
   (stp rfl fun a u hb hs hl hd K hK=>by have s106:=gD hd 19;clear hd;go_simp;exact kE hK hs),
   (stp rfl fun a u hb hs hl hd K hK=>by have s107:=gD hd 20;clear hd;go_simp;exact kE hK hs),
   (stp rfl fun a u hb hs hl hd K hK=>by have s101:=gD hd 14;have s108:=gD hd 21;clear hd;go_simp;exact kE hK hs),
   (stp rfl fun a u hb hs hl hd K hK=>by have s1:=gL hl 8;clear hd;go_simp;exact kE hK hs),
   (stp rfl fun a u hb hs hl hd K hK=>by have s22:=gL hl 0;clear hd;go_simp;exact kE hK hs),
   (stp rfl fun a u hb hs hl hd K hK=>by have s111:=gD hd 24;clear hd;go_simp;exact kE hK hs),
   (stp rfl fun a u hb hs hl hd K hK=>by have s110:=gD hd 23;have s112:=gD hd 25;clear hd;go_simp;exact kE hK hs),
   (stp rfl fun a u hb hs hl hd K hK=>by have s113:=gD hd 26;have cp0:=cell_up hb cp0;have cp1:=cell_up hb cp1;have cp2:=cell_up hb cp2;have cp3:=cell_up hb cp3;have hold:=cell_up hb hold;clear hd;go_simp;exact kE hK hs),
   (stp rfl fun a u hb hs hl hd K hK=>by have s114:=gD hd 27;clear hd;go_simp;exact kE hK hs),
   (stp rfl fun a u hb hs hl hd K hK=>by have s109:=gD hd 22;have s115:=gD hd 28;clear hd;go_simp;exact kE hK hs),
   (stp rfl fun a u hb hs hl hd K hK=>by have s4:=gL hl 9;have s87:=gD hd 0;clear hd;go_simp;exact kE hK hs),
   trivial⟩ ?_
 clear hs hd zl;intro a w hb hs hd zl hh;replace zl:=lH hh 29 zl;replace zl:=lH hh 30 zl;clear hh;replace hG:=hG.after hb;replace hS:=hS.after hb;replace hKt:=hKt.after hb;replace hP:=hP.after hb;replace cp0:=cell_up hb cp0;replace cp1:=cell_up hb cp1;replace cp2:=cell_up hb cp2;replace cp3:=cell_up hb cp3;replace hold:=cell_up hb hold;clear hb;show wpList _ _ _ [_] _ _
 refine tail_op rfl (fun K hK=>?_);have q116:=gL zl 1;have q117:=gL zl 0;have hfr:=hS.free k;go_simp;clear hfr;clear q116 q117;refine hK _ _ ?_;clear hK K;change wpList _ _ _ _ a _;have hG2:=hG.set k (.int .u32 (wd l p k));have hK2:=hKt.gb (gb_set (gb_refl w (some B)) k (.int .u32 (wd l p k))) (fun e=>hB0 e.symm);have hS2:=hS.put (V:=wd l p k) hk rfl;rw[be4_prog l p k hl8 hk16];clear hG hKt hS hP;revert hG2 hK2 hS2;generalize w.setCell ⟨B,k,none⟩ (.int .u32 (wd l p k))=w1;intro hG hKt hS;clear i0l i0h i0t i1w i1l i1h i1t i2w i2l i2h i2t i3w i3l i3h i3t ikh cp0 cp1 cp2 cp3 hold;refine wp_seq ?_;have ikh:(k:Int)<64:=by omega
 obtain⟨Kk,hKk⟩:∃x,Is (kTab.getD k 0) x:=is_self _;have ck:=hKt k hk;rw[hKk.out]at ck;obtain⟨Wk,hWk⟩:∃x,Is (wd l p k) x:=is_self _;have cw:=hS.cell (j:=k) (by omega);rw[hWk.out]at cw;refine fl2 [.eq 157 _,.eq 158 _,.eq 159 _,.eq 160 _,.eq 161 _,.eq 162 _,.eq 163 _,.eq 164 _,.eq 165 _,.eq 166 _,.eq 167 _,.eq 168 _,.eq 169 _,.eq 170 _,.eq 171 _,.eq 172 _,.eq 173 (.int .u32 (bits .andNot .u32 R.g R.e)),.eq 174 _,.eq 175 _,.eq 176 _,.eq 177 _,.eq 178 _,.eq 179 _,.eq 180 _,.eq 181 _,.eq 182 _,.eq 183 (.int .u32 (tOne Kk Wk R))] 27 hs hd zl
  ⟨sP bq,
   sP bq,
   (stp rfl fun a u hb hs hl hd K hK=>by
    have s158:=gD hd 1;have ck:=cell_up hb ck;have cw:=cell_up hb cw;clear hd;go_simp;refine(c_rot6 _ _).mono ?_;rintro e w' ⟨rfl,rfl⟩;exact hK _ _ (Below.refl _ _) (eq_put hs (by decide))),
   sP bq,
   (stp rfl fun a u hb hs hl hd K hK=>by
    have s160:=gD hd 3;have ck:=cell_up hb ck;have cw:=cell_up hb cw;clear hd;go_simp;refine(c_rot11 _ _).mono ?_;rintro e w' ⟨rfl,rfl⟩;exact hK _ _ (Below.refl _ _) (eq_put hs (by decide))),
   sP bq,
   sP bq,
   (stp rfl fun a u hb hs hl hd K hK=>by
    have s163:=gD hd 6;have ck:=cell_up hb ck;have cw:=cell_up hb cw;clear hd;go_simp;refine(c_rot25 _ _).mono ?_;rintro e w' ⟨rfl,rfl⟩;exact hK _ _ (Below.refl _ _) (eq_put hs (by decide))),
   sP bq,
   sP bq,
   sP bq,
   sP bq,
   sP bq,
   sP bq,
   sP bq,
   sP bq,
   (stp rfl fun a u hb hs hl hd K hK=>by
    have s171:=gD hd 14;have s172:=gD hd 15;have ck:=cell_up hb ck;have cw:=cell_up hb cw;clear hd;go_simp;exact hK _ _ (Below.refl _ _) (eq_put' hs (by decide) (congrArg (Value.int .u32) (andNot_prog _ _)))),
   sP bq,
   sP bq,
   sP bq,
   sP bq,
   sP bq,
   sP bq,
   sP bq,
   sP bq,
   sP bq,
   sP bq,
   trivial⟩ ?_
 clear hs hd zl;intro a w hb hs hd zl hh;replace zl:=lH hh 26 zl;clear hh;replace hG:=hG.after hb;replace hS:=hS.after hb;replace hKt:=hKt.after hb;replace ck:=cell_up hb ck;replace cw:=cell_up hb cw;clear hb;refine wn 1 ?_;clear hs hd zl;intro a hs hd zl;clear ikh ck cw;refine wp_seq ?_;refine fl2 [.eq 184 _,.eq 185 _,.eq 186 _,.eq 187 _,.eq 188 _,.eq 189 _,.eq 190 _,.eq 191 _,.eq 192 _,.eq 193 _,.eq 194 _,.eq 195 _,.eq 196 _,.eq 197 _,.eq 198 _,.eq 199 _,.eq 200 _,.eq 201 _,.eq 202 _,.eq 203 (.int .u32 (tTwo R))] 20 hs hd zl
  ⟨sP bq,
   (stp rfl fun a u hb hs hl hd K hK=>by
    have s184:=gD hd 0;clear hd;go_simp;refine(c_rot2 _ _).mono ?_;rintro e w' ⟨rfl,rfl⟩;exact hK _ _ (Below.refl _ _) (eq_put hs (by decide))),
   sP bq,
   (stp rfl fun a u hb hs hl hd K hK=>by
    have s186:=gD hd 2;clear hd;go_simp;refine(c_rot13 _ _).mono ?_;rintro e w' ⟨rfl,rfl⟩;exact hK _ _ (Below.refl _ _) (eq_put hs (by decide))),
   sP bq,
   sP bq,
   (stp rfl fun a u hb hs hl hd K hK=>by
    have s189:=gD hd 5;clear hd;go_simp;refine(c_rot22 _ _).mono ?_;rintro e w' ⟨rfl,rfl⟩;exact hK _ _ (Below.refl _ _) (eq_put hs (by decide))),
   sP bq,
   sP bq,
   sP bq,
   sP bq,
   sP bq,
   sP bq,
   sP bq,
   sP bq,
   sP bq,
   sP bq,
   sP bq,
   sP bq,
   sP bq,
   trivial⟩ ?_
 clear hs hd zl;intro a w hb hs hd zl hh;replace zl:=lH hh 19 zl;clear hh;replace hG:=hG.after hb;replace hS:=hS.after hb;replace hKt:=hKt.after hb;clear hb;refine wn 1 ?_;clear hs hd zl;intro a hs hd zl;refine wp_seq ?_;refine fl2 [.eq 204 _] 1 hs hd zl
  ⟨sP bq,
   trivial⟩ ?_
 clear hs hd zl;intro a w hb hs hd zl hh;replace zl:=lH hh 0 zl;clear hh;replace hG:=hG.after hb;replace hS:=hS.after hb;replace hKt:=hKt.after hb;clear hb;show wpList _ _ _ [_] _ _
 refine tail_op rfl (fun K hK=>?_);have q204:=gL zl 0;go_simp;clear q204;refine hK _ _ ?_;clear hK K;obtain⟨s204,s28,-,s27,-,-,-,-,-,-,-,-,-,-,s0,s1,s4,s5,s6,s7,s8,s9,s10,s11,s12,s13,s14,s15,s16,s17,s18,s19,s20,s80,-⟩:=zl;refine act_put (d:=20) _ hs hd (by decide) [(0,_),(1,_),(4,_),(5,_),(6,_),(7,_),(8,_),(9,_),(10,_),(11,_),(12,_),(13,_),(14,_),(15,_),(16,_),(17,_),(18,_),(19,_),(27,_),(28,_),(80,_),(204,_)] ⟨s0,s1,s4,s5,s6,s7,s8,s9,s10,s11,s12,s13,s14,s15,s16,s17,s18,s19,s27,s28,s80,s204,trivial⟩ rfl ?_;clear hs hd s0 s1 s4 s5 s6 s7 s8 s9 s10 s11 s12 s13 s14 s15 s16 s17 s18 s19 s20 s27 s28 s80 s204;intro a hs hd zl;refine wp_seq ?_;refine fl2 [.eq 205 _] 1 hs hd zl
  ⟨sP bq,
   trivial⟩ ?_
 clear hs hd zl;intro a w hb hs hd zl hh;replace zl:=lH hh 0 zl;clear hh;replace hG:=hG.after hb;replace hS:=hS.after hb;replace hKt:=hKt.after hb;clear hb;show wpList _ _ _ [_] _ _
 refine tail_op rfl (fun K hK=>?_);have q205:=gL zl 0;go_simp;clear q205;refine hK _ _ ?_;clear hK K;obtain⟨s205,s20,s0,s1,s4,s5,s6,s7,s8,s9,s10,s11,s12,s13,s14,s15,s16,s17,s18,s19,s27,s28,s80,-,-⟩:=zl;refine act_put (d:=19) _ hs hd (by decide) [(0,_),(1,_),(4,_),(5,_),(6,_),(7,_),(8,_),(9,_),(10,_),(11,_),(12,_),(13,_),(14,_),(15,_),(16,_),(17,_),(18,_),(20,_),(27,_),(28,_),(80,_),(205,_)] ⟨s0,s1,s4,s5,s6,s7,s8,s9,s10,s11,s12,s13,s14,s15,s16,s17,s18,s20,s27,s28,s80,s205,trivial⟩ rfl ?_;clear hs hd s0 s1 s4 s5 s6 s7 s8 s9 s10 s11 s12 s13 s14 s15 s16 s17 s18 s19 s20 s27 s28 s80 s205;intro a hs hd zl;refine wp_seq ?_;refine fl2 [.eq 206 _] 1 hs hd zl
  ⟨sP bq,
   trivial⟩ ?_
 clear hs hd zl;intro a w hb hs hd zl hh;replace zl:=lH hh 0 zl;clear hh;replace hG:=hG.after hb;replace hS:=hS.after hb;replace hKt:=hKt.after hb;clear hb;show wpList _ _ _ [_] _ _
 refine tail_op rfl (fun K hK=>?_);have q206:=gL zl 0;go_simp;clear q206;refine hK _ _ ?_;clear hK K;obtain⟨s206,s19,s0,s1,s4,s5,s6,s7,s8,s9,s10,s11,s12,s13,s14,s15,s16,s17,s18,s20,s27,s28,s80,-,-⟩:=zl;refine act_put (d:=18) _ hs hd (by decide) [(0,_),(1,_),(4,_),(5,_),(6,_),(7,_),(8,_),(9,_),(10,_),(11,_),(12,_),(13,_),(14,_),(15,_),(16,_),(17,_),(19,_),(20,_),(27,_),(28,_),(80,_),(206,_)] ⟨s0,s1,s4,s5,s6,s7,s8,s9,s10,s11,s12,s13,s14,s15,s16,s17,s19,s20,s27,s28,s80,s206,trivial⟩ rfl ?_;clear hs hd s0 s1 s4 s5 s6 s7 s8 s9 s10 s11 s12 s13 s14 s15 s16 s17 s18 s19 s20 s27 s28 s80 s206;intro a hs hd zl;refine wp_seq ?_;refine fl2 [.eq 207 _,.eq 208 _,.eq 209 (.int .u32 (add32 R.d (tOne Kk Wk R)))] 3 hs hd zl
  ⟨sP bq,
   sP bq,
   sP bq,
   trivial⟩ ?_
 clear hs hd zl;intro a w hb hs hd zl hh;replace zl:=lH hh 2 zl;clear hh;replace hG:=hG.after hb;replace hS:=hS.after hb;replace hKt:=hKt.after hb;clear hb;show wpList _ _ _ [_] _ _
 refine tail_op rfl (fun K hK=>?_);have q209:=gL zl 0;go_simp;clear q209;refine hK _ _ ?_;clear hK K;obtain⟨s209,s18,s0,s1,s4,s5,s6,s7,s8,s9,s10,s11,s12,s13,s14,s15,s16,s17,s19,s20,s27,s28,s80,-,-⟩:=zl;refine act_put (d:=17) _ hs hd (by decide) [(0,_),(1,_),(4,_),(5,_),(6,_),(7,_),(8,_),(9,_),(10,_),(11,_),(12,_),(13,_),(14,_),(15,_),(16,_),(18,_),(19,_),(20,_),(27,_),(28,_),(80,_),(209,_)] ⟨s0,s1,s4,s5,s6,s7,s8,s9,s10,s11,s12,s13,s14,s15,s16,s18,s19,s20,s27,s28,s80,s209,trivial⟩ rfl ?_;clear hs hd s0 s1 s4 s5 s6 s7 s8 s9 s10 s11 s12 s13 s14 s15 s16 s17 s18 s19 s20 s27 s28 s80 s209;intro a hs hd zl;refine wp_seq ?_;refine fl2 [.eq 210 _] 1 hs hd zl
  ⟨sP bq,
   trivial⟩ ?_
 clear hs hd zl;intro a w hb hs hd zl hh;replace zl:=lH hh 0 zl;clear hh;replace hG:=hG.after hb;replace hS:=hS.after hb;replace hKt:=hKt.after hb;clear hb;show wpList _ _ _ [_] _ _
 refine tail_op rfl (fun K hK=>?_);have q210:=gL zl 0;go_simp;clear q210;refine hK _ _ ?_;clear hK K;obtain⟨s210,s17,s0,s1,s4,s5,s6,s7,s8,s9,s10,s11,s12,s13,s14,s15,s16,s18,s19,s20,s27,s28,s80,-,-⟩:=zl;refine act_put (d:=16) _ hs hd (by decide) [(0,_),(1,_),(4,_),(5,_),(6,_),(7,_),(8,_),(9,_),(10,_),(11,_),(12,_),(13,_),(14,_),(15,_),(17,_),(18,_),(19,_),(20,_),(27,_),(28,_),(80,_),(210,_)] ⟨s0,s1,s4,s5,s6,s7,s8,s9,s10,s11,s12,s13,s14,s15,s17,s18,s19,s20,s27,s28,s80,s210,trivial⟩ rfl ?_;clear hs hd s0 s1 s4 s5 s6 s7 s8 s9 s10 s11 s12 s13 s14 s15 s16 s17 s18 s19 s20 s27 s28 s80 s210;intro a hs hd zl;refine wp_seq ?_;refine fl2 [.eq 211 _] 1 hs hd zl
  ⟨sP bq,
   trivial⟩ ?_
 clear hs hd zl;intro a w hb hs hd zl hh;replace zl:=lH hh 0 zl;clear hh;replace hG:=hG.after hb;replace hS:=hS.after hb;replace hKt:=hKt.after hb;clear hb;show wpList _ _ _ [_] _ _
 refine tail_op rfl (fun K hK=>?_);have q211:=gL zl 0;go_simp;clear q211;refine hK _ _ ?_;clear hK K;obtain⟨s211,s16,s0,s1,s4,s5,s6,s7,s8,s9,s10,s11,s12,s13,s14,s15,s17,s18,s19,s20,s27,s28,s80,-,-⟩:=zl;refine act_put (d:=15) _ hs hd (by decide) [(0,_),(1,_),(4,_),(5,_),(6,_),(7,_),(8,_),(9,_),(10,_),(11,_),(12,_),(13,_),(14,_),(16,_),(17,_),(18,_),(19,_),(20,_),(27,_),(28,_),(80,_),(211,_)] ⟨s0,s1,s4,s5,s6,s7,s8,s9,s10,s11,s12,s13,s14,s16,s17,s18,s19,s20,s27,s28,s80,s211,trivial⟩ rfl ?_;clear hs hd s0 s1 s4 s5 s6 s7 s8 s9 s10 s11 s12 s13 s14 s15 s16 s17 s18 s19 s20 s27 s28 s80 s211;intro a hs hd zl;refine wp_seq ?_;refine fl2 [.eq 212 _] 1 hs hd zl
  ⟨sP bq,
   trivial⟩ ?_
 clear hs hd zl;intro a w hb hs hd zl hh;replace zl:=lH hh 0 zl;clear hh;replace hG:=hG.after hb;replace hS:=hS.after hb;replace hKt:=hKt.after hb;clear hb;show wpList _ _ _ [_] _ _
 refine tail_op rfl (fun K hK=>?_);have q212:=gL zl 0;go_simp;clear q212;refine hK _ _ ?_;clear hK K;obtain⟨s212,s15,s0,s1,s4,s5,s6,s7,s8,s9,s10,s11,s12,s13,s14,s16,s17,s18,s19,s20,s27,s28,s80,-,-⟩:=zl;refine act_put (d:=14) _ hs hd (by decide) [(0,_),(1,_),(4,_),(5,_),(6,_),(7,_),(8,_),(9,_),(10,_),(11,_),(12,_),(13,_),(15,_),(16,_),(17,_),(18,_),(19,_),(20,_),(27,_),(28,_),(80,_),(212,_)] ⟨s0,s1,s4,s5,s6,s7,s8,s9,s10,s11,s12,s13,s15,s16,s17,s18,s19,s20,s27,s28,s80,s212,trivial⟩ rfl ?_;clear hs hd s0 s1 s4 s5 s6 s7 s8 s9 s10 s11 s12 s13 s14 s15 s16 s17 s18 s19 s20 s27 s28 s80 s212;intro a hs hd zl;refine fl2 [.eq 213 _,.eq 214 _,.eq 215 (.int .u32 (add32 (tOne Kk Wk R) (tTwo R)))] 3 hs hd zl
  ⟨sP bq,
   sP bq,
   sP bq,
   trivial⟩ ?_
 clear hs hd zl;intro a w hb hs hd zl hh;replace zl:=lH hh 2 zl;clear hh;replace hG:=hG.after hb;replace hS:=hS.after hb;replace hKt:=hKt.after hb;clear hb;show wpList _ _ _ [_] _ _
 refine tail_op rfl (fun K hK=>?_);have q215:=gL zl 0;go_simp;clear q215;refine hK _ _ ?_;clear hK K;obtain⟨s215,s14,s0,s1,s4,s5,s6,s7,s8,s9,s10,s11,s12,s13,s15,s16,s17,s18,s19,s20,-,-,s80,-,-⟩:=zl;refine act_put (d:=13) _ hs hd (by decide) [(0,_),(1,_),(4,_),(5,_),(6,_),(7,_),(8,_),(9,_),(10,_),(11,_),(12,_),(14,_),(15,_),(16,_),(17,_),(18,_),(19,_),(20,_),(80,_),(215,_)] ⟨s0,s1,s4,s5,s6,s7,s8,s9,s10,s11,s12,s14,s15,s16,s17,s18,s19,s20,s80,s215,trivial⟩ rfl ?_;clear hs hd s0 s1 s4 s5 s6 s7 s8 s9 s10 s11 s12 s13 s14 s15 s16 s17 s18 s19 s20 s80 s215;intro a hs hd zl;have e80:IntKind.i64.wrap ((k:Int)+1)=((k+1:Nat):Int):=by rw[IntWalk.i64_in _ (by omega)];omega
 refine fl2 [.eq 216 _] 1 hs hd zl
  ⟨sP bq,
   trivial⟩ ?_
 clear hs hd zl;intro a w hb hs hd zl hh;replace zl:=lH hh 0 zl;clear hh;replace hG:=hG.after hb;replace hS:=hS.after hb;replace hKt:=hKt.after hb;clear hb;show wpList _ _ _ [_] _ _
 refine tail_op rfl (fun K hK=>?_);have q216:=gL zl 0;go_simp;clear q216;refine hK _ _ ?_;clear hK K;obtain⟨s216,s13,s0,s1,s4,s5,s6,s7,s8,s9,s10,s11,s12,s14,s15,s16,s17,s18,s19,s20,s80,-,-⟩:=zl;refine act_put (d:=80) _ hs hd (by decide) [(0,_),(1,_),(4,_),(5,_),(6,_),(7,_),(8,_),(9,_),(10,_),(11,_),(12,_),(13,_),(14,_),(15,_),(16,_),(17,_),(18,_),(19,_),(20,_),(216,_)] ⟨s0,s1,s4,s5,s6,s7,s8,s9,s10,s11,s12,s13,s14,s15,s16,s17,s18,s19,s20,s216,trivial⟩ rfl ?_;clear hs hd s0 s1 s4 s5 s6 s7 s8 s9 s10 s11 s12 s13 s14 s15 s16 s17 s18 s19 s20 s80 s216;intro a hs hd zl;clear e80;obtain rfl:=hKk.out;obtain rfl:=hWk.out;obtain⟨s80,s0,s1,s4,s5,s6,s7,s8,s9,s10,s11,s12,s13,s14,s15,s16,s17,s18,s19,s20,-,-⟩:=zl;exact hQ a w hs hd ⟨s0,s1,s4,s5,s6,s7,s8,s9,s10,s11,s12,s13,s14,s15,s16,s17,s18,s19,s20,s80,trivial⟩ hG hS
theorem bg_hi{Q:Exit→Act→World→Prop}{x0 x5 x6 x7 x8 x9 x10 x11 x12:Value}{A:Option Addr}{b o p n' c' B k:Nat}{l:List Int}{R:ShaSt}{w0:World}(a:Act)(w:World)(hs:SzIs a 283)(hd:DfNil a)
  (s0:a.tmps.getD 0 undef=x0)(s1:a.tmps.getD 1 undef=.slice (some ⟨b,o,none⟩) n' c')(s4:a.tmps.getD 4 undef=.pointer (some ⟨B,0,none⟩))(s5:a.tmps.getD 5 undef=x5)(s6:a.tmps.getD 6 undef=x6)(s7:a.tmps.getD 7 undef=x7)(s8:a.tmps.getD 8 undef=x8)(s9:a.tmps.getD 9 undef=x9)(s10:a.tmps.getD 10 undef=x10)(s11:a.tmps.getD 11 undef=x11)(s12:a.tmps.getD 12 undef=x12)(s13:a.tmps.getD 13 undef=.int .u32 R.a)(s14:a.tmps.getD 14 undef=.int .u32 R.b)(s15:a.tmps.getD 15 undef=.int .u32 R.c)(s16:a.tmps.getD 16 undef=.int .u32 R.d)(s17:a.tmps.getD 17 undef=.int .u32 R.e)(s18:a.tmps.getD 18 undef=.int .u32 R.f)(s19:a.tmps.getD 19 undef=.int .u32 R.g)(s20:a.tmps.getD 20 undef=.int .u32 R.h)(s80:a.tmps.getD 80 undef=.int .i64 k)
  (hk:k<64)(hk16:16≤k)(hl8:Bytes l)(hG:GB w0 w B)(hS:Sched w B 99 l p k)(hKt:KTab w 1)(hB0:B≠1)
  (hQ:∀a w,SzIs a 283→DfNil a→LiveAll [(0,x0),(1,.slice (some ⟨b,o,none⟩) n' c'),(4,.pointer (some ⟨B,0,none⟩)),(5,x5),(6,x6),(7,x7),(8,x8),(9,x9),(10,x10),(11,x11),(12,x12),(13,.int .u32 (shaRnd (kTab.getD k 0) (wd l p k) R).a),(14,.int .u32 (shaRnd (kTab.getD k 0) (wd l p k) R).b),(15,.int .u32 (shaRnd (kTab.getD k 0) (wd l p k) R).c),(16,.int .u32 (shaRnd (kTab.getD k 0) (wd l p k) R).d),(17,.int .u32 (shaRnd (kTab.getD k 0) (wd l p k) R).e),(18,.int .u32 (shaRnd (kTab.getD k 0) (wd l p k) R).f),(19,.int .u32 (shaRnd (kTab.getD k 0) (wd l p k) R).g),(20,.int .u32 (shaRnd (kTab.getD k 0) (wd l p k) R).h),(80,.int .i64 ((k+1:Nat):Int))] a→GB w0 w B→Sched w B 99 l p (k+1)→Q .normal a w):
  bgBody.wp Tryz.prog Q a w:=by
 conv=>arg 2;whnf
 refine wp_seq ?_;have hdk:decide ((k:Int)<64)=true:=by simp;omega
 refine wp_region_list ?_;show wpList _ _ _ [_] _ _
 refine tail_op rfl (fun K hK=>?_);have q80:=gd s80;go_simp;clear q80;refine hK _ _ ?_;clear hK K;refine act_put (d:=81) _ hs hd (by decide) [(0,_),(1,_),(4,_),(5,_),(6,_),(7,_),(8,_),(9,_),(10,_),(11,_),(12,_),(13,_),(14,_),(15,_),(16,_),(17,_),(18,_),(19,_),(20,_),(80,_)] ⟨s0,s1,s4,s5,s6,s7,s8,s9,s10,s11,s12,s13,s14,s15,s16,s17,s18,s19,s20,s80,trivial⟩ rfl ?_;clear hs hd s0 s1 s4 s5 s6 s7 s8 s9 s10 s11 s12 s13 s14 s15 s16 s17 s18 s19 s20 s80;intro a hs hd zl;clear hdk;refine wp_seq ?_;refine wp_cond_true (vL zl 0) ?_;refine wp_skip ?_;refine wp_seq ?_;refine wp_block ?_;refine wp_seq ?_;refine fl2 [.eq 82 _] 1 hs hd zl
  ⟨sP bq,
   trivial⟩ ?_
 clear hs hd zl;intro a w hb hs hd zl hh;replace zl:=lH hh 0 zl;clear hh;replace hG:=hG.after hb;replace hS:=hS.after hb;replace hKt:=hKt.after hb;clear hb;refine wn 1 ?_;clear hs hd zl;intro a hs hd zl;refine wp_seq ?_;refine wp_seq ?_;have hdk:decide ((k:Int)<16)=false:=by simp;omega
 refine fl2 [.eq 83 _] 1 hs hd zl
  ⟨sP bq,
   trivial⟩ ?_
 clear hs hd zl;intro a w hb hs hd zl hh;replace zl:=lH hh 0 zl;clear hh;replace hG:=hG.after hb;replace hS:=hS.after hb;replace hKt:=hKt.after hb;clear hb;refine wn 1 ?_;clear hs hd zl;intro a hs hd zl;clear hdk;refine wp_cond_false (vL zl 0) ?_;refine wp_seq ?_;have cw2:=hS.cell (j:=k-2) (by omega);obtain⟨W2,hW2⟩:∃x,Is (wd l p (k-2)) x:=is_self _;rw[hW2.out]at cw2;have j2k:2≤(k:Int):=by omega
 have j2w:IntKind.i64.wrap ((k:Int)-2)=(k:Int)-2:=IntWalk.i64_in _ (by omega);have j2l:0≤(k:Int)-2:=by omega
 have j2h:(k:Int)-2<64:=by omega
 have j2t:Int.toNat ((k:Int)-2)=k-2:=by omega
 refine fl2 [.eq 118 _,.eq 119 _,.eq 120 _,.eq 121 _] 4 hs hd zl
  ⟨sP bq,
   sP bq,
   sP bq,
   (stp rfl fun a u hb hs hl hd K hK=>by have s120:=gD hd 2;have cw2:=cell_up hb cw2;clear hd;go_simp;exact kE hK hs),
   trivial⟩ ?_
 clear hs hd zl;intro a w hb hs hd zl hh;replace zl:=lH hh 3 zl;clear hh;replace hG:=hG.after hb;replace hS:=hS.after hb;replace hKt:=hKt.after hb;replace cw2:=cell_up hb cw2;clear hb;refine wn 1 ?_;clear hs hd zl;intro a hs hd zl;clear cw2 j2k j2w j2l j2h j2t;refine wp_seq ?_;refine fl2 [.eq 122 _,.eq 123 _,.eq 124 _,.eq 125 _,.eq 126 _,.eq 127 _,.eq 128 _,.eq 129 (.int .u32 (sg1 W2))] 8 hs hd zl
  ⟨sP bq,
   (stp rfl fun a u hb hs hl hd K hK=>by
    have s122:=gD hd 0;clear hd;go_simp;refine(c_rot17 _ _).mono ?_;rintro e w' ⟨rfl,rfl⟩;exact hK _ _ (Below.refl _ _) (eq_put hs (by decide))),
   sP bq,
   (stp rfl fun a u hb hs hl hd K hK=>by
    have s124:=gD hd 2;clear hd;go_simp;refine(c_rot19 _ _).mono ?_;rintro e w' ⟨rfl,rfl⟩;exact hK _ _ (Below.refl _ _) (eq_put hs (by decide))),
   sP bq,
   sP bq,
   sP bq,
   sP bq,
   trivial⟩ ?_
 clear hs hd zl;intro a w hb hs hd zl hh;replace zl:=lH hh 7 zl;clear hh;replace hG:=hG.after hb;replace hS:=hS.after hb;replace hKt:=hKt.after hb;clear hb;refine wn 1 ?_;clear hs hd zl;intro a hs hd zl;refine wp_seq ?_;have cw15:=hS.cell (j:=k-15) (by omega);obtain⟨W15,hW15⟩:∃x,Is (wd l p (k-15)) x:=is_self _;rw[hW15.out]at cw15;have j2k:15≤(k:Int):=by omega
 have j2w:IntKind.i64.wrap ((k:Int)-15)=(k:Int)-15:=IntWalk.i64_in _ (by omega);have j2l:0≤(k:Int)-15:=by omega
 have j2h:(k:Int)-15<64:=by omega
 have j2t:Int.toNat ((k:Int)-15)=k-15:=by omega
 refine fl2 [.eq 130 _,.eq 131 _,.eq 132 _,.eq 133 _] 4 hs hd zl
  ⟨sP bq,
   sP bq,
   sP bq,
   (stp rfl fun a u hb hs hl hd K hK=>by have s132:=gD hd 2;have cw15:=cell_up hb cw15;clear hd;go_simp;exact kE hK hs),
   trivial⟩ ?_
 clear hs hd zl;intro a w hb hs hd zl hh;replace zl:=lH hh 3 zl;clear hh;replace hG:=hG.after hb;replace hS:=hS.after hb;replace hKt:=hKt.after hb;replace cw15:=cell_up hb cw15;clear hb;refine wn 1 ?_;clear hs hd zl;intro a hs hd zl;clear cw15 j2k j2w j2l j2h j2t;refine wp_seq ?_;refine fl2 [.eq 134 _,.eq 135 _,.eq 136 _,.eq 137 _,.eq 138 _,.eq 139 _,.eq 140 _,.eq 141 (.int .u32 (sg0 W15))] 8 hs hd zl
  ⟨sP bq,
   (stp rfl fun a u hb hs hl hd K hK=>by
    have s134:=gD hd 0;clear hd;go_simp;refine(c_rot7 _ _).mono ?_;rintro e w' ⟨rfl,rfl⟩;exact hK _ _ (Below.refl _ _) (eq_put hs (by decide))),
   sP bq,
   (stp rfl fun a u hb hs hl hd K hK=>by
    have s136:=gD hd 2;clear hd;go_simp;refine(c_rot18 _ _).mono ?_;rintro e w' ⟨rfl,rfl⟩;exact hK _ _ (Below.refl _ _) (eq_put hs (by decide))),
   sP bq,
   sP bq,
   sP bq,
   sP bq,
   trivial⟩ ?_
 clear hs hd zl;intro a w hb hs hd zl hh;replace zl:=lH hh 7 zl;clear hh;replace hG:=hG.after hb;replace hS:=hS.after hb;replace hKt:=hKt.after hb;clear hb;refine wn 1 ?_;clear hs hd zl;intro a hs hd zl;have cw7:=hS.cell (j:=k-7) (by omega);obtain⟨W7,hW7⟩:∃x,Is (wd l p (k-7)) x:=is_self _;rw[hW7.out]at cw7;have cw16:=hS.cell (j:=k-16) (by omega);obtain⟨W16,hW16⟩:∃x,Is (wd l p (k-16)) x:=is_self _;rw[hW16.out]at cw16;obtain⟨old,hold⟩:=hS.there hk;have ikh:(k:Int)<64:=by omega
 have j7k:7≤(k:Int):=by omega
 have j7l:0≤(k:Int)-7:=by omega
 have j7h:(k:Int)-7<64:=by omega
 have j16k:16≤(k:Int):=by omega
 have j16l:0≤(k:Int)-16:=by omega
 have j16h:(k:Int)-16<64:=by omega
 have j7w:IntKind.i64.wrap ((k:Int)-7)=(k:Int)-7:=IntWalk.i64_in _ (by omega);have j7t:Int.toNat ((k:Int)-7)=k-7:=by omega
 have j16w:IntKind.i64.wrap ((k:Int)-16)=(k:Int)-16:=IntWalk.i64_in _ (by omega);have j16t:Int.toNat ((k:Int)-16)=k-16:=by omega
 refine fl2 [.eq 142 _,.eq 143 _,.eq 144 _,.eq 145 _,.eq 146 _,.eq 147 _,.eq 148 _,.eq 149 _,.eq 150 _,.eq 151 _,.eq 152 _,.eq 153 _,.eq 154 _,.eq 155 _,.eq 156 _] 15 hs hd zl
  ⟨sP bq,
   sP bq,
   sP bq,
   sP bq,
   sP bq,
   (stp rfl fun a u hb hs hl hd K hK=>by have s146:=gD hd 4;have cw7:=cell_up hb cw7;have cw16:=cell_up hb cw16;have hold:=cell_up hb hold;clear hd;go_simp;exact kE hK hs),
   (stp rfl fun a u hb hs hl hd K hK=>by have s143:=gD hd 1;have s147:=gD hd 5;clear hd;go_simp;exact kE hK hs),
   (stp rfl fun a u hb hs hl hd K hK=>by have s26:=gL hl 0;clear hd;go_simp;exact kE hK hs),
   (stp rfl fun a u hb hs hl hd K hK=>by have s148:=gD hd 6;have s149:=gD hd 7;clear hd;go_simp;exact kE hK hs),
   (stp rfl fun a u hb hs hl hd K hK=>by have s21:=gL hl 10;clear hd;go_simp;exact kE hK hs),
   (stp rfl fun a u hb hs hl hd K hK=>by have s151:=gD hd 9;clear hd;go_simp;exact kE hK hs),
   (stp rfl fun a u hb hs hl hd K hK=>by have s4:=gL hl 15;have s152:=gD hd 10;clear hd;go_simp;exact kE hK hs),
   (stp rfl fun a u hb hs hl hd K hK=>by have s153:=gD hd 11;have cw7:=cell_up hb cw7;have cw16:=cell_up hb cw16;have hold:=cell_up hb hold;clear hd;go_simp;exact kE hK hs),
   (stp rfl fun a u hb hs hl hd K hK=>by have s150:=gD hd 8;have s154:=gD hd 12;clear hd;go_simp;exact kE hK hs),
   (stp rfl fun a u hb hs hl hd K hK=>by have s4:=gL hl 15;have s142:=gD hd 0;clear hd;go_simp;exact kE hK hs),
   trivial⟩ ?_
 clear hs hd zl;intro a w hb hs hd zl hh;replace zl:=lH hh 13 zl;replace zl:=lH hh 14 zl;clear hh;replace hG:=hG.after hb;replace hS:=hS.after hb;replace hKt:=hKt.after hb;replace cw7:=cell_up hb cw7;replace cw16:=cell_up hb cw16;replace hold:=cell_up hb hold;clear hb;show wpList _ _ _ [_] _ _
 refine tail_op rfl (fun K hK=>?_);have q155:=gL zl 1;have q156:=gL zl 0;have hfr:=hS.free k;go_simp;clear hfr;clear q155 q156;refine hK _ _ ?_;clear hK K;change wpList _ _ _ _ a _;have hG2:=hG.set k (.int .u32 (wd l p k));have hK2:=hKt.gb (gb_set (gb_refl w (some B)) k (.int .u32 (wd l p k))) (fun e=>hB0 e.symm);have hS2:=hS.put (V:=wd l p k) hk rfl;rw[wd_prog' l p k hk16 hW2 hW7 hW15 hW16];clear hG hKt hS;revert hG2 hK2 hS2;generalize w.setCell ⟨B,k,none⟩ (.int .u32 (wd l p k))=w1;intro hG hKt hS;clear ikh cw7 cw16 hold j7k j7w j7l j7h j7t j16k j16w j16l j16h j16t;refine wp_seq ?_;have ikh:(k:Int)<64:=by omega
 obtain⟨Kk,hKk⟩:∃x,Is (kTab.getD k 0) x:=is_self _;have ck:=hKt k hk;rw[hKk.out]at ck;obtain⟨Wk,hWk⟩:∃x,Is (wd l p k) x:=is_self _;have cw:=hS.cell (j:=k) (by omega);rw[hWk.out]at cw;refine fl2 [.eq 157 _,.eq 158 _,.eq 159 _,.eq 160 _,.eq 161 _,.eq 162 _,.eq 163 _,.eq 164 _,.eq 165 _,.eq 166 _,.eq 167 _,.eq 168 _,.eq 169 _,.eq 170 _,.eq 171 _,.eq 172 _,.eq 173 (.int .u32 (bits .andNot .u32 R.g R.e)),.eq 174 _,.eq 175 _,.eq 176 _,.eq 177 _,.eq 178 _,.eq 179 _,.eq 180 _,.eq 181 _,.eq 182 _,.eq 183 (.int .u32 (tOne Kk Wk R))] 27 hs hd zl
  ⟨sP bq,
   sP bq,
   (stp rfl fun a u hb hs hl hd K hK=>by
    have s158:=gD hd 1;have ck:=cell_up hb ck;have cw:=cell_up hb cw;clear hd;go_simp;refine(c_rot6 _ _).mono ?_;rintro e w' ⟨rfl,rfl⟩;exact hK _ _ (Below.refl _ _) (eq_put hs (by decide))),
   sP bq,
   (stp rfl fun a u hb hs hl hd K hK=>by
    have s160:=gD hd 3;have ck:=cell_up hb ck;have cw:=cell_up hb cw;clear hd;go_simp;refine(c_rot11 _ _).mono ?_;rintro e w' ⟨rfl,rfl⟩;exact hK _ _ (Below.refl _ _) (eq_put hs (by decide))),
   sP bq,
   sP bq,
   (stp rfl fun a u hb hs hl hd K hK=>by
    have s163:=gD hd 6;have ck:=cell_up hb ck;have cw:=cell_up hb cw;clear hd;go_simp;refine(c_rot25 _ _).mono ?_;rintro e w' ⟨rfl,rfl⟩;exact hK _ _ (Below.refl _ _) (eq_put hs (by decide))),
   sP bq,
   sP bq,
   sP bq,
   sP bq,
   sP bq,
   sP bq,
   sP bq,
   sP bq,
   (stp rfl fun a u hb hs hl hd K hK=>by
    have s171:=gD hd 14;have s172:=gD hd 15;have ck:=cell_up hb ck;have cw:=cell_up hb cw;clear hd;go_simp;exact hK _ _ (Below.refl _ _) (eq_put' hs (by decide) (congrArg (Value.int .u32) (andNot_prog _ _)))),
   sP bq,
   sP bq,
   sP bq,
   sP bq,
   sP bq,
   sP bq,
   sP bq,
   sP bq,
   sP bq,
   sP bq,
   trivial⟩ ?_
 clear hs hd zl;intro a w hb hs hd zl hh;replace zl:=lH hh 26 zl;clear hh;replace hG:=hG.after hb;replace hS:=hS.after hb;replace hKt:=hKt.after hb;replace ck:=cell_up hb ck;replace cw:=cell_up hb cw;clear hb;refine wn 1 ?_;clear hs hd zl;intro a hs hd zl;clear ikh ck cw;refine wp_seq ?_;refine fl2 [.eq 184 _,.eq 185 _,.eq 186 _,.eq 187 _,.eq 188 _,.eq 189 _,.eq 190 _,.eq 191 _,.eq 192 _,.eq 193 _,.eq 194 _,.eq 195 _,.eq 196 _,.eq 197 _,.eq 198 _,.eq 199 _,.eq 200 _,.eq 201 _,.eq 202 _,.eq 203 (.int .u32 (tTwo R))] 20 hs hd zl
  ⟨sP bq,
   (stp rfl fun a u hb hs hl hd K hK=>by
    have s184:=gD hd 0;clear hd;go_simp;refine(c_rot2 _ _).mono ?_;rintro e w' ⟨rfl,rfl⟩;exact hK _ _ (Below.refl _ _) (eq_put hs (by decide))),
   sP bq,
   (stp rfl fun a u hb hs hl hd K hK=>by
    have s186:=gD hd 2;clear hd;go_simp;refine(c_rot13 _ _).mono ?_;rintro e w' ⟨rfl,rfl⟩;exact hK _ _ (Below.refl _ _) (eq_put hs (by decide))),
   sP bq,
   sP bq,
   (stp rfl fun a u hb hs hl hd K hK=>by
    have s189:=gD hd 5;clear hd;go_simp;refine(c_rot22 _ _).mono ?_;rintro e w' ⟨rfl,rfl⟩;exact hK _ _ (Below.refl _ _) (eq_put hs (by decide))),
   sP bq,
   sP bq,
   sP bq,
   sP bq,
   sP bq,
   sP bq,
   sP bq,
   sP bq,
   sP bq,
   sP bq,
   sP bq,
   sP bq,
   sP bq,
   trivial⟩ ?_
 clear hs hd zl;intro a w hb hs hd zl hh;replace zl:=lH hh 19 zl;clear hh;replace hG:=hG.after hb;replace hS:=hS.after hb;replace hKt:=hKt.after hb;clear hb;refine wn 1 ?_;clear hs hd zl;intro a hs hd zl;refine wp_seq ?_;refine fl2 [.eq 204 _] 1 hs hd zl
  ⟨sP bq,
   trivial⟩ ?_
 clear hs hd zl;intro a w hb hs hd zl hh;replace zl:=lH hh 0 zl;clear hh;replace hG:=hG.after hb;replace hS:=hS.after hb;replace hKt:=hKt.after hb;clear hb;show wpList _ _ _ [_] _ _
 refine tail_op rfl (fun K hK=>?_);have q204:=gL zl 0;go_simp;clear q204;refine hK _ _ ?_;clear hK K;obtain⟨s204,s28,-,s27,-,-,-,-,-,-,-,-,-,-,-,-,-,-,-,-,s0,s1,s4,s5,s6,s7,s8,s9,s10,s11,s12,s13,s14,s15,s16,s17,s18,s19,s20,s80,-⟩:=zl;refine act_put (d:=20) _ hs hd (by decide) [(0,_),(1,_),(4,_),(5,_),(6,_),(7,_),(8,_),(9,_),(10,_),(11,_),(12,_),(13,_),(14,_),(15,_),(16,_),(17,_),(18,_),(19,_),(27,_),(28,_),(80,_),(204,_)] ⟨s0,s1,s4,s5,s6,s7,s8,s9,s10,s11,s12,s13,s14,s15,s16,s17,s18,s19,s27,s28,s80,s204,trivial⟩ rfl ?_;clear hs hd s0 s1 s4 s5 s6 s7 s8 s9 s10 s11 s12 s13 s14 s15 s16 s17 s18 s19 s20 s27 s28 s80 s204;intro a hs hd zl;refine wp_seq ?_;refine fl2 [.eq 205 _] 1 hs hd zl
  ⟨sP bq,
   trivial⟩ ?_
 clear hs hd zl;intro a w hb hs hd zl hh;replace zl:=lH hh 0 zl;clear hh;replace hG:=hG.after hb;replace hS:=hS.after hb;replace hKt:=hKt.after hb;clear hb;show wpList _ _ _ [_] _ _
 refine tail_op rfl (fun K hK=>?_);have q205:=gL zl 0;go_simp;clear q205;refine hK _ _ ?_;clear hK K;obtain⟨s205,s20,s0,s1,s4,s5,s6,s7,s8,s9,s10,s11,s12,s13,s14,s15,s16,s17,s18,s19,s27,s28,s80,-,-⟩:=zl;refine act_put (d:=19) _ hs hd (by decide) [(0,_),(1,_),(4,_),(5,_),(6,_),(7,_),(8,_),(9,_),(10,_),(11,_),(12,_),(13,_),(14,_),(15,_),(16,_),(17,_),(18,_),(20,_),(27,_),(28,_),(80,_),(205,_)] ⟨s0,s1,s4,s5,s6,s7,s8,s9,s10,s11,s12,s13,s14,s15,s16,s17,s18,s20,s27,s28,s80,s205,trivial⟩ rfl ?_;clear hs hd s0 s1 s4 s5 s6 s7 s8 s9 s10 s11 s12 s13 s14 s15 s16 s17 s18 s19 s20 s27 s28 s80 s205;intro a hs hd zl;refine wp_seq ?_;refine fl2 [.eq 206 _] 1 hs hd zl
  ⟨sP bq,
   trivial⟩ ?_
 clear hs hd zl;intro a w hb hs hd zl hh;replace zl:=lH hh 0 zl;clear hh;replace hG:=hG.after hb;replace hS:=hS.after hb;replace hKt:=hKt.after hb;clear hb;show wpList _ _ _ [_] _ _
 refine tail_op rfl (fun K hK=>?_);have q206:=gL zl 0;go_simp;clear q206;refine hK _ _ ?_;clear hK K;obtain⟨s206,s19,s0,s1,s4,s5,s6,s7,s8,s9,s10,s11,s12,s13,s14,s15,s16,s17,s18,s20,s27,s28,s80,-,-⟩:=zl;refine act_put (d:=18) _ hs hd (by decide) [(0,_),(1,_),(4,_),(5,_),(6,_),(7,_),(8,_),(9,_),(10,_),(11,_),(12,_),(13,_),(14,_),(15,_),(16,_),(17,_),(19,_),(20,_),(27,_),(28,_),(80,_),(206,_)] ⟨s0,s1,s4,s5,s6,s7,s8,s9,s10,s11,s12,s13,s14,s15,s16,s17,s19,s20,s27,s28,s80,s206,trivial⟩ rfl ?_;clear hs hd s0 s1 s4 s5 s6 s7 s8 s9 s10 s11 s12 s13 s14 s15 s16 s17 s18 s19 s20 s27 s28 s80 s206;intro a hs hd zl;refine wp_seq ?_;refine fl2 [.eq 207 _,.eq 208 _,.eq 209 (.int .u32 (add32 R.d (tOne Kk Wk R)))] 3 hs hd zl
  ⟨sP bq,
   sP bq,
   sP bq,
   trivial⟩ ?_
 clear hs hd zl;intro a w hb hs hd zl hh;replace zl:=lH hh 2 zl;clear hh;replace hG:=hG.after hb;replace hS:=hS.after hb;replace hKt:=hKt.after hb;clear hb;show wpList _ _ _ [_] _ _
 refine tail_op rfl (fun K hK=>?_);have q209:=gL zl 0;go_simp;clear q209;refine hK _ _ ?_;clear hK K;obtain⟨s209,s18,s0,s1,s4,s5,s6,s7,s8,s9,s10,s11,s12,s13,s14,s15,s16,s17,s19,s20,s27,s28,s80,-,-⟩:=zl;refine act_put (d:=17) _ hs hd (by decide) [(0,_),(1,_),(4,_),(5,_),(6,_),(7,_),(8,_),(9,_),(10,_),(11,_),(12,_),(13,_),(14,_),(15,_),(16,_),(18,_),(19,_),(20,_),(27,_),(28,_),(80,_),(209,_)] ⟨s0,s1,s4,s5,s6,s7,s8,s9,s10,s11,s12,s13,s14,s15,s16,s18,s19,s20,s27,s28,s80,s209,trivial⟩ rfl ?_;clear hs hd s0 s1 s4 s5 s6 s7 s8 s9 s10 s11 s12 s13 s14 s15 s16 s17 s18 s19 s20 s27 s28 s80 s209;intro a hs hd zl;refine wp_seq ?_;refine fl2 [.eq 210 _] 1 hs hd zl
  ⟨sP bq,
   trivial⟩ ?_
 clear hs hd zl;intro a w hb hs hd zl hh;replace zl:=lH hh 0 zl;clear hh;replace hG:=hG.after hb;replace hS:=hS.after hb;replace hKt:=hKt.after hb;clear hb;show wpList _ _ _ [_] _ _
 refine tail_op rfl (fun K hK=>?_);have q210:=gL zl 0;go_simp;clear q210;refine hK _ _ ?_;clear hK K;obtain⟨s210,s17,s0,s1,s4,s5,s6,s7,s8,s9,s10,s11,s12,s13,s14,s15,s16,s18,s19,s20,s27,s28,s80,-,-⟩:=zl;refine act_put (d:=16) _ hs hd (by decide) [(0,_),(1,_),(4,_),(5,_),(6,_),(7,_),(8,_),(9,_),(10,_),(11,_),(12,_),(13,_),(14,_),(15,_),(17,_),(18,_),(19,_),(20,_),(27,_),(28,_),(80,_),(210,_)] ⟨s0,s1,s4,s5,s6,s7,s8,s9,s10,s11,s12,s13,s14,s15,s17,s18,s19,s20,s27,s28,s80,s210,trivial⟩ rfl ?_;clear hs hd s0 s1 s4 s5 s6 s7 s8 s9 s10 s11 s12 s13 s14 s15 s16 s17 s18 s19 s20 s27 s28 s80 s210;intro a hs hd zl;refine wp_seq ?_;refine fl2 [.eq 211 _] 1 hs hd zl
  ⟨sP bq,
   trivial⟩ ?_
 clear hs hd zl;intro a w hb hs hd zl hh;replace zl:=lH hh 0 zl;clear hh;replace hG:=hG.after hb;replace hS:=hS.after hb;replace hKt:=hKt.after hb;clear hb;show wpList _ _ _ [_] _ _
 refine tail_op rfl (fun K hK=>?_);have q211:=gL zl 0;go_simp;clear q211;refine hK _ _ ?_;clear hK K;obtain⟨s211,s16,s0,s1,s4,s5,s6,s7,s8,s9,s10,s11,s12,s13,s14,s15,s17,s18,s19,s20,s27,s28,s80,-,-⟩:=zl;refine act_put (d:=15) _ hs hd (by decide) [(0,_),(1,_),(4,_),(5,_),(6,_),(7,_),(8,_),(9,_),(10,_),(11,_),(12,_),(13,_),(14,_),(16,_),(17,_),(18,_),(19,_),(20,_),(27,_),(28,_),(80,_),(211,_)] ⟨s0,s1,s4,s5,s6,s7,s8,s9,s10,s11,s12,s13,s14,s16,s17,s18,s19,s20,s27,s28,s80,s211,trivial⟩ rfl ?_;clear hs hd s0 s1 s4 s5 s6 s7 s8 s9 s10 s11 s12 s13 s14 s15 s16 s17 s18 s19 s20 s27 s28 s80 s211;intro a hs hd zl;refine wp_seq ?_;refine fl2 [.eq 212 _] 1 hs hd zl
  ⟨sP bq,
   trivial⟩ ?_
 clear hs hd zl;intro a w hb hs hd zl hh;replace zl:=lH hh 0 zl;clear hh;replace hG:=hG.after hb;replace hS:=hS.after hb;replace hKt:=hKt.after hb;clear hb;show wpList _ _ _ [_] _ _
 refine tail_op rfl (fun K hK=>?_);have q212:=gL zl 0;go_simp;clear q212;refine hK _ _ ?_;clear hK K;obtain⟨s212,s15,s0,s1,s4,s5,s6,s7,s8,s9,s10,s11,s12,s13,s14,s16,s17,s18,s19,s20,s27,s28,s80,-,-⟩:=zl;refine act_put (d:=14) _ hs hd (by decide) [(0,_),(1,_),(4,_),(5,_),(6,_),(7,_),(8,_),(9,_),(10,_),(11,_),(12,_),(13,_),(15,_),(16,_),(17,_),(18,_),(19,_),(20,_),(27,_),(28,_),(80,_),(212,_)] ⟨s0,s1,s4,s5,s6,s7,s8,s9,s10,s11,s12,s13,s15,s16,s17,s18,s19,s20,s27,s28,s80,s212,trivial⟩ rfl ?_;clear hs hd s0 s1 s4 s5 s6 s7 s8 s9 s10 s11 s12 s13 s14 s15 s16 s17 s18 s19 s20 s27 s28 s80 s212;intro a hs hd zl;refine fl2 [.eq 213 _,.eq 214 _,.eq 215 (.int .u32 (add32 (tOne Kk Wk R) (tTwo R)))] 3 hs hd zl
  ⟨sP bq,
   sP bq,
   sP bq,
   trivial⟩ ?_
 clear hs hd zl;intro a w hb hs hd zl hh;replace zl:=lH hh 2 zl;clear hh;replace hG:=hG.after hb;replace hS:=hS.after hb;replace hKt:=hKt.after hb;clear hb;show wpList _ _ _ [_] _ _
 refine tail_op rfl (fun K hK=>?_);have q215:=gL zl 0;go_simp;clear q215;refine hK _ _ ?_;clear hK K;obtain⟨s215,s14,s0,s1,s4,s5,s6,s7,s8,s9,s10,s11,s12,s13,s15,s16,s17,s18,s19,s20,-,-,s80,-,-⟩:=zl;refine act_put (d:=13) _ hs hd (by decide) [(0,_),(1,_),(4,_),(5,_),(6,_),(7,_),(8,_),(9,_),(10,_),(11,_),(12,_),(14,_),(15,_),(16,_),(17,_),(18,_),(19,_),(20,_),(80,_),(215,_)] ⟨s0,s1,s4,s5,s6,s7,s8,s9,s10,s11,s12,s14,s15,s16,s17,s18,s19,s20,s80,s215,trivial⟩ rfl ?_;clear hs hd s0 s1 s4 s5 s6 s7 s8 s9 s10 s11 s12 s13 s14 s15 s16 s17 s18 s19 s20 s80 s215;intro a hs hd zl;have e80:IntKind.i64.wrap ((k:Int)+1)=((k+1:Nat):Int):=by rw[IntWalk.i64_in _ (by omega)];omega
 refine fl2 [.eq 216 _] 1 hs hd zl
  ⟨sP bq,
   trivial⟩ ?_
 clear hs hd zl;intro a w hb hs hd zl hh;replace zl:=lH hh 0 zl;clear hh;replace hG:=hG.after hb;replace hS:=hS.after hb;replace hKt:=hKt.after hb;clear hb;show wpList _ _ _ [_] _ _
 refine tail_op rfl (fun K hK=>?_);have q216:=gL zl 0;go_simp;clear q216;refine hK _ _ ?_;clear hK K;obtain⟨s216,s13,s0,s1,s4,s5,s6,s7,s8,s9,s10,s11,s12,s14,s15,s16,s17,s18,s19,s20,s80,-,-⟩:=zl;refine act_put (d:=80) _ hs hd (by decide) [(0,_),(1,_),(4,_),(5,_),(6,_),(7,_),(8,_),(9,_),(10,_),(11,_),(12,_),(13,_),(14,_),(15,_),(16,_),(17,_),(18,_),(19,_),(20,_),(216,_)] ⟨s0,s1,s4,s5,s6,s7,s8,s9,s10,s11,s12,s13,s14,s15,s16,s17,s18,s19,s20,s216,trivial⟩ rfl ?_;clear hs hd s0 s1 s4 s5 s6 s7 s8 s9 s10 s11 s12 s13 s14 s15 s16 s17 s18 s19 s20 s80 s216;intro a hs hd zl;clear e80;obtain rfl:=hKk.out;obtain rfl:=hWk.out;obtain⟨s80,s0,s1,s4,s5,s6,s7,s8,s9,s10,s11,s12,s13,s14,s15,s16,s17,s18,s19,s20,-,-⟩:=zl;exact hQ a w hs hd ⟨s0,s1,s4,s5,s6,s7,s8,s9,s10,s11,s12,s13,s14,s15,s16,s17,s18,s19,s20,s80,trivial⟩ hG hS
theorem bg_inner{Q:Exit→Act→World→Prop}{x0 x5 x6 x7 x8 x9 x10 x11 x12:Value}{b o p n' c' B:Nat}{l:List Int}{S:ShaSt}{w0:World}(a:Act)(w:World)(hs:SzIs a 283)(hd:DfNil a)
  (s0:a.tmps.getD 0 undef=x0)(s1:a.tmps.getD 1 undef=.slice (some ⟨b,o,none⟩) n' c')(s4:a.tmps.getD 4 undef=.pointer (some ⟨B,0,none⟩))(s5:a.tmps.getD 5 undef=x5)(s6:a.tmps.getD 6 undef=x6)(s7:a.tmps.getD 7 undef=x7)(s8:a.tmps.getD 8 undef=x8)(s9:a.tmps.getD 9 undef=x9)(s10:a.tmps.getD 10 undef=x10)(s11:a.tmps.getD 11 undef=x11)(s12:a.tmps.getD 12 undef=x12)(s13:a.tmps.getD 13 undef=.int .u32 S.a)(s14:a.tmps.getD 14 undef=.int .u32 S.b)(s15:a.tmps.getD 15 undef=.int .u32 S.c)(s16:a.tmps.getD 16 undef=.int .u32 S.d)(s17:a.tmps.getD 17 undef=.int .u32 S.e)(s18:a.tmps.getD 18 undef=.int .u32 S.f)(s19:a.tmps.getD 19 undef=.int .u32 S.g)(s20:a.tmps.getD 20 undef=.int .u32 S.h)(s80:a.tmps.getD 80 undef=.int .i64 0)
  (hn:64≤n')(hn':n'≤1000000000000)(hG:GB w0 w B)(hS:Sched w B 99 l p 0)(hKt:KTab w0 1)(hB0:B≠1)(hP:BytesAt w0 b o l p 64)(hbB:b≠B)(hl8:Bytes l)
  (hQ:∀(a:Act) (w:World) (R:ShaSt),Is R (shaRds l p S 64)→SzIs a 283→DfNil a→LiveAll [(0,x0),(1,.slice (some ⟨b,o,none⟩) n' c'),(4,.pointer (some ⟨B,0,none⟩)),(5,x5),(6,x6),(7,x7),(8,x8),(9,x9),(10,x10),(11,x11),(12,x12),(13,.int .u32 R.a),(14,.int .u32 R.b),(15,.int .u32 R.c),(16,.int .u32 R.d),(17,.int .u32 R.e),(18,.int .u32 R.f),(19,.int .u32 R.g),(20,.int .u32 R.h)] a→GB w0 w B→Sched w B 99 l p 64→Q (.exit 2) a w):
  (Code.loop bgBody).wp Tryz.prog Q a w:=by
 refine wp_loop (fun a w=>∃k:Nat,∃R:ShaSt,k≤64∧Is R (shaRds l p S k)∧SzIs a 283∧DfNil a∧LiveAll [(0,x0),(1,.slice (some ⟨b,o,none⟩) n' c'),(4,.pointer (some ⟨B,0,none⟩)),(5,x5),(6,x6),(7,x7),(8,x8),(9,x9),(10,x10),(11,x11),(12,x12),(13,.int .u32 R.a),(14,.int .u32 R.b),(15,.int .u32 R.c),(16,.int .u32 R.d),(17,.int .u32 R.e),(18,.int .u32 R.f),(19,.int .u32 R.g),(20,.int .u32 R.h),(80,.int .i64 k)] a∧GB w0 w B∧Sched w B 99 l p k)
  (fun a _=>64-(intOf (a.tmps.getD 80 undef)).toNat) ⟨0,S,by omega,rfl,hs,hd,⟨s0,s1,s4,s5,s6,s7,s8,s9,s10,s11,s12,s13,s14,s15,s16,s17,s18,s19,s20,s80,trivial⟩,hG,hS⟩ ?_
 clear hs hd s0 s1 s4 s5 s6 s7 s8 s9 s10 s11 s12 s13 s14 s15 s16 s17 s18 s19 s20 s80 hG hS a w;rintro a w ⟨k,R,hk,hR,hs,hd,⟨s0,s1,s4,s5,s6,s7,s8,s9,s10,s11,s12,s13,s14,s15,s16,s17,s18,s19,s20,s80,-⟩,hG,hS⟩;have hm:(intOf (a.tmps.getD 80 undef)).toNat=k:=by rw[s80];simp[intOf]
 by_cases hk64:k<64
 ·have hend:∀(a':Act) (w':World),SzIs a' 283→DfNil a'→LiveAll [(0,x0),(1,.slice (some ⟨b,o,none⟩) n' c'),(4,.pointer (some ⟨B,0,none⟩)),(5,x5),(6,x6),(7,x7),(8,x8),(9,x9),(10,x10),(11,x11),(12,x12),(13,.int .u32 (shaRnd (kTab.getD k 0) (wd l p k) R).a),(14,.int .u32 (shaRnd (kTab.getD k 0) (wd l p k) R).b),(15,.int .u32 (shaRnd (kTab.getD k 0) (wd l p k) R).c),(16,.int .u32 (shaRnd (kTab.getD k 0) (wd l p k) R).d),(17,.int .u32 (shaRnd (kTab.getD k 0) (wd l p k) R).e),(18,.int .u32 (shaRnd (kTab.getD k 0) (wd l p k) R).f),(19,.int .u32 (shaRnd (kTab.getD k 0) (wd l p k) R).g),(20,.int .u32 (shaRnd (kTab.getD k 0) (wd l p k) R).h),(80,.int .i64 ((k+1:Nat):Int))] a'→GB w0 w' B→Sched w' B 99 l p (k+1)→
    (∃k:Nat,∃R:ShaSt,k≤64∧Is R (shaRds l p S k)∧SzIs a' 283∧DfNil a'∧LiveAll [(0,x0),(1,.slice (some ⟨b,o,none⟩) n' c'),(4,.pointer (some ⟨B,0,none⟩)),(5,x5),(6,x6),(7,x7),(8,x8),(9,x9),(10,x10),(11,x11),(12,x12),(13,.int .u32 R.a),(14,.int .u32 R.b),(15,.int .u32 R.c),(16,.int .u32 R.d),(17,.int .u32 R.e),(18,.int .u32 R.f),(19,.int .u32 R.g),(20,.int .u32 R.h),(80,.int .i64 k)] a'∧GB w0 w' B∧Sched w' B 99 l p k)∧64-(intOf (a'.tmps.getD 80 undef)).toNat<64-(intOf (a.tmps.getD 80 undef)).toNat:=by
   intro a' w' h1 h2 h3 h4 h5;have h80:a'.tmps.getD 80 undef=.int .i64 ((k+1:Nat):Int):=h3.2.2.2.2.2.2.2.2.2.2.2.2.2.2.2.2.2.2.2.1;refine⟨⟨k+1,shaRnd (kTab.getD k 0) (wd l p k) R,by omega,?_,h1,h2,h3,h4,h5⟩,?_⟩
   ·unfold Is;rw[hR.out];rfl
   ·rw[h80,hm];simp[intOf];omega
  by_cases hk16:k<16
  ·exact bg_lo (A:=none) a w hs hd s0 s1 s4 s5 s6 s7 s8 s9 s10 s11 s12 s13 s14 s15 s16 s17 s18 s19 s20 s80 hk64 hk16 hn hn' (hP.gb hG hbB) hbB hl8 hG hS (hKt.gb hG (fun e=>hB0 e.symm)) hB0 hend
  ·exact bg_hi (A:=none) a w hs hd s0 s1 s4 s5 s6 s7 s8 s9 s10 s11 s12 s13 s14 s15 s16 s17 s18 s19 s20 s80 hk64 (by omega) hl8 hG hS (hKt.gb hG (fun e=>hB0 e.symm)) hB0 hend
 ·obtain rfl:k=64:=by omega
  clear hm;conv=>arg 2;whnf
  refine wp_seq ?_;refine wp_region_list ?_;show wpList _ _ _ [_] _ _
  refine tail_op rfl (fun K hK=>?_);have q80:=gd s80;go_simp;clear q80;refine hK _ _ ?_;clear hK K;refine act_put (d:=81) _ hs hd (by decide) [(0,_),(1,_),(4,_),(5,_),(6,_),(7,_),(8,_),(9,_),(10,_),(11,_),(12,_),(13,_),(14,_),(15,_),(16,_),(17,_),(18,_),(19,_),(20,_),(80,_)] ⟨s0,s1,s4,s5,s6,s7,s8,s9,s10,s11,s12,s13,s14,s15,s16,s17,s18,s19,s20,s80,trivial⟩ rfl ?_;clear hs hd s0 s1 s4 s5 s6 s7 s8 s9 s10 s11 s12 s13 s14 s15 s16 s17 s18 s19 s20 s80;intro a hs hd zl;refine wp_seq ?_;refine wp_cond_false (vL zl 0) ?_;refine wp_exit ?_;obtain⟨s81,s0,s1,s4,s5,s6,s7,s8,s9,s10,s11,s12,s13,s14,s15,s16,s17,s18,s19,s20,s80,-⟩:=zl;exact hQ a w R hR hs hd ⟨s0,s1,s4,s5,s6,s7,s8,s9,s10,s11,s12,s13,s14,s15,s16,s17,s18,s19,s20,trivial⟩ hG hS
def SHolds:Option (Nat×Value)→Act→Prop
 |some (t,v),a=>a.tmps.getD t undef=v
 |none,_=>True
def sReads:Option (Nat×Value)→List Nat
 |some (t,_)=>[t]
 |none=>[]
def rankOf(th:List Nat)(i:Nat):Option Nat:=th.findIdx? (· == i)
def chainOk(ops:Array Oper)(th:List Nat):Bool:=
 (List.range th.length).all fun k=>match th[k]? with
  |none=>false
  |some i=>decide (i<ops.size) && (rankOf th i == some k) && match k with
   |0=>true
   |k+1=>match th[k]?,ops[i]? with
    |some j,some o=>(deps o).contains j
    |_,_=>false
def after(r:Option Nat)(c:Nat):Nat:=match r with|some _=>c+1|none=>c
def SDeps(its:List (Option (Nat×Value)))(a:Act):List Nat→Prop
 | []=>True
 |j::js=>(match its[j]? with|some s=>SHolds s a|none=>True)∧SDeps its a js
def SAll(a:Act):List (Option (Nat×Value))→Prop
 | []=>True
 |s::ss=>SHolds s a∧SAll a ss
section
variable{P:Program}{ops:Array Oper}{Q:Exit→Act→World→Prop}
theorem wpAny_flow3(its:List (Option (Nat×Value)))(th:List Nat)(Th:Nat→World→Prop)(a0:Act)(hck:flowOk ops (its.map sReads)=true)(hch:chainOk ops th=true)
  (hstep:∀(i:Nat) (o:Oper) (s:Option (Nat×Value)),ops[i]?=some o→its[i]?=some s→∀a w c,Th c w→(∀k,rankOf th i=some k→c=k)→Same ops a0 a→(∀j∈deps o,∀(t:Option (Nat×Value)),its[j]?=some t→SHolds t a)→
   ∀K:Act→World→Prop,(∀v w',SHolds s (a.put o.dst v)→Th (after (rankOf th i) c) w'→K (a.put o.dst v) w')→if Region.wanted o (yielded ops a.tmps)=true then o.wp P a w K Q else K (a.put o.dst undef) w)
  (hend:∀a w,Th th.length w→Same ops a0 a→(∀(i:Nat) (s:Option (Nat×Value)),its[i]?=some s→SHolds s a)→Q .normal a w):
  ∀(fuel:Nat) (listed:Array Bool) (a:Act) (w:World) (c:Nat),listed.size=ops.size→(List.range ops.size).countP (fun i=>!listed.getD i true)≤fuel→Th c w→c≤th.length→(∀k i,th[k]?=some i→(listed.getD i false=true↔k<c))→Same ops a0 a→
   (∀(i:Nat) (o:Oper) (s:Option (Nat×Value)),ops[i]?=some o→its[i]?=some s→listed.getD i false=true→(∀j∈deps o,listed.getD j false=true)∧SHolds s a)→wpAny P .any ops Q fuel listed a w:=by
 have hlen:its.length=ops.size:=by
  simp only[flowOk,Bool.and_eq_true,beq_iff_eq,List.length_map]at hck;exact hck.1
 have hchain:∀k i,th[k]?=some i→i<ops.size∧rankOf th i=some k∧∀j o,0<k→th[k-1]?=some j→ops[i]?=some o→j∈deps o:=by
  intro k i hk;have hkl:k<th.length:=(List.getElem?_eq_some_iff.1 hk).1;have h:=List.all_eq_true.1 hch k (List.mem_range.2 hkl);rw[hk]at h;simp only[Bool.and_eq_true,decide_eq_true_eq,beq_iff_eq]at h;refine⟨h.1.1,h.1.2,fun j o h0 hj ho=>?_⟩;obtain⟨k,rfl⟩:∃m,k=m+1:=⟨k-1,by omega⟩;have h2:=h.2;simp only[Nat.add_sub_cancel]at hj;simp only[hj,ho]at h2;simpa using h2
 have hall:∀(listed:Array Bool) (a:Act) (w:World) (c:Nat),listed.size=ops.size→Region.ready .any ops listed=[]→Th c w→c≤th.length→(∀k i,th[k]?=some i→(listed.getD i false=true↔k<c))→Same ops a0 a→
   (∀(i:Nat) (o:Oper) (s:Option (Nat×Value)),ops[i]?=some o→its[i]?=some s→listed.getD i false=true→(∀j∈deps o,listed.getD j false=true)∧SHolds s a)→Q .normal a w:=by
  intro listed a w c hls hr hT hc hcl hs hinv;have hdone:∀i,i<ops.size→listed.getD i false=true:=by
   intro i;induction i using Nat.strongRecOn with
   |_ i ih=>
    intro hi;by_cases hli:listed.getD i false=true
    ·exact hli
    ·exfalso;obtain⟨o,ho⟩:∃o,ops[i]?=some o:=⟨ops[i],Array.getElem?_eq_getElem hi⟩;have hd:=flow_deps hck ho;have hmem:i∈Region.ready .any ops listed:=by
      unfold Region.ready;rw[List.mem_filter];refine⟨List.mem_range.2 hi,?_⟩;have h1:listed.getD i true=false:=by
       have hi':i<listed.size:=by omega
       simp[Array.getD_eq_getD_getElem?,hi']at hli⊢;exact hli
      rw[h1,ho];simp only[Bool.not_false,Bool.true_and,Option.map_some,Option.getD_some,Array.all_eq_true'];intro e he;by_cases hbd:Region.binds .any e=true
      ·have hlt:=hd _ (dep_mem he hbd);simp[hbd,ih e.on hlt (by omega)]
      ·simp at hbd;simp[hbd]
     rw[hr]at hmem
     cases hmem
  have hcE:c=th.length:=by
   rcases Nat.lt_or_ge c th.length with h|h
   ·have h1:th[c]?=some th[c]:=List.getElem?_eq_getElem h;have h2:=(hcl c _ h1).1 (hdone _ (hchain c _ h1).1);omega
   ·omega
  subst hcE;refine hend a w hT hs fun i s hit=>?_
  have hi:i<ops.size:=by
   have:=(List.getElem?_eq_some_iff.1 hit).1;omega
  exact(hinv i ops[i] s (Array.getElem?_eq_getElem hi) hit (hdone i hi)).2
 intro fuel;induction fuel with
 |zero=>
  intro listed a w c hls hcn hT hc hcl hs hinv;have hr:Region.ready .any ops listed=[]:=by
   unfold Region.ready;rw[List.filter_eq_nil_iff];intro i hi;have h0:(List.range ops.size).countP (fun i=>!listed.getD i true)=0:=by omega
   have:=List.countP_eq_zero.1 h0 i hi;simp at this;simp[this]
  exact⟨hr,hall listed a w c hls hr hT hc hcl hs hinv⟩
 |succ fuel ih=>
  intro listed a w c hls hcn hT hc hcl hs hinv;refine⟨fun hr=>hall listed a w c hls hr hT hc hcl hs hinv,fun i hi=>?_⟩;unfold Region.ready at hi;rw[List.mem_filter]at hi;obtain⟨hir,hi2⟩:=hi;have hin:i<ops.size:=List.mem_range.1 hir;obtain⟨o,ho⟩:∃o,ops[i]?=some o:=⟨ops[i],Array.getElem?_eq_getElem hin⟩;obtain⟨s,hit⟩:∃s,its[i]?=some s:=⟨its[i]'(by omega),List.getElem?_eq_getElem (by omega)⟩;rw[ho]at hi2;simp only[Bool.and_eq_true,Option.map_some,Option.getD_some,Array.all_eq_true']at hi2;obtain⟨hun,hed⟩:=hi2;have hunl:listed.getD i true=false:=by simpa using hun
  have hunf:listed.getD i false=false:=getD_both hunl;have hdl:∀j∈deps o,listed.getD j false=true:=by
   intro j hj;obtain⟨e,he,hb',rfl⟩:=dep_edge hj;have:=hed e he;simpa [hb']using this
  have hrank:∀k,rankOf th i=some k→c=k∧th[k]?=some i:=by
   intro k hk;unfold rankOf at hk;rw[List.findIdx?_eq_some_iff_getElem]at hk;obtain⟨hkl,hke,_⟩:=hk;have hk':th[k]?=some i:=by
    rw[List.getElem?_eq_getElem hkl]
    congr 1
    simpa using hke
   have h1:¬ k<c:=fun h=>by
    have:=(hcl k i hk').2 h;rw[hunf]at this
    cases this
   refine⟨?_,hk'⟩;rcases Nat.eq_zero_or_pos k with h0|h0
   ·omega
   ·have hj:th[k-1]?=some th[k-1]:=List.getElem?_eq_getElem (by omega);have hd:=(hchain k i hk').2.2 _ o h0 hj ho;have:=(hcl (k-1) _ hj).1 (hdl _ hd);omega
  refine wpOp_step ho fun K' hK=>?_
  refine hstep i o s ho hit a w c hT (fun k hk=>(hrank k hk).1) hs (fun j hj t hjt=>?_) K' (fun v w' hitw hT'=>hK _ _ ?_)
  ·have hjn:j<ops.size:=Nat.lt_trans (flow_deps hck ho j hj) hin;exact(hinv j ops[j] t (Array.getElem?_eq_getElem hjn) hjt (hdl j hj)).2
  ·have hset:∀k,(listed.setIfInBounds i true).getD k false=true→k=i∨listed.getD k false=true:=by
    intro k hk;by_cases hki:k=i
    ·exact .inl hki
    ·right
     simpa [Array.getD_eq_getD_getElem?,Array.getElem?_setIfInBounds_ne (Ne.symm hki)]using hk
   have hkeep:∀k,listed.getD k false=true→(listed.setIfInBounds i true).getD k false=true:=by
    intro k hk;by_cases hki:k=i
    ·subst hki;simp[Array.getD_eq_getD_getElem?,show k<listed.size by omega]
    ·simpa [Array.getD_eq_getD_getElem?,Array.getElem?_setIfInBounds_ne (Ne.symm hki)]using hk
   have hself:(listed.setIfInBounds i true).getD i false=true:=by simp[Array.getD_eq_getD_getElem?,show i<listed.size by omega]
   refine ih _ _ _ (after (rankOf th i) c) (by simpa using hls) ?_ hT' ?_ ?_ (hs.put ho v) ?_
   ·have hlt:(List.range ops.size).countP (fun k=>!(listed.setIfInBounds i true).getD k true)<(List.range ops.size).countP (fun k=>!listed.getD k true):=by
     refine countP_lt_of (x:=i) _ ?_ hir (by simp[hunl]) (by simp[Array.getD_eq_getD_getElem?,show i<listed.size by omega]);intro k hk hk';by_cases hki:k=i
     ·subst hki;simp[hunl]
     ·simpa [Array.getD_eq_getD_getElem?,Array.getElem?_setIfInBounds_ne (Ne.symm hki)]using hk'
    omega
   ·cases hr:rankOf th i with
    |none=>exact hc
    |some k=>
     obtain⟨rfl,hk⟩:=hrank k hr;have:=(List.getElem?_eq_some_iff.1 hk).1;show c+1≤_
     omega
   ·intro k j hkj
    cases hr:rankOf th i with
    |none=>
     have hji:j≠i:=by
      rintro rfl;rw[(hchain k j hkj).2.1]at hr
      cases hr
     show _↔k<c
     rw[← hcl k j hkj];simp[Array.getD_eq_getD_getElem?,Array.getElem?_setIfInBounds_ne (Ne.symm hji)]
    |some k'=>
     obtain⟨rfl,hk'⟩:=hrank k' hr;show _↔k<c+1
     by_cases hji:j=i
     ·subst hji;have:some k=some c:=(hchain k j hkj).2.1.symm.trans hr;injection this with this;subst this;simp[hself]
     ·have hkc:k≠c:=by
       rintro rfl;rw[hkj]at hk';injection hk' with hk';exact hji hk'
      have:=hcl k j hkj;have e:(listed.setIfInBounds i true).getD j false=listed.getD j false:=by simp[Array.getD_eq_getD_getElem?,Array.getElem?_setIfInBounds_ne (Ne.symm hji)]
      rw[e,this];omega
   ·intro k ok kt hok hkt hkl;rcases hset k hkl with rfl|hkl'
    ·rw[ho]at hok;rw[hit]at hkt;injection hok with hok;injection hkt with hkt;subst hok hkt;exact⟨fun j hj=>hkeep j (hdl j hj),hitw⟩
    ·obtain⟨hkd,hkh⟩:=hinv k ok kt hok hkt hkl';refine⟨fun j hj=>hkeep j (hkd j hj),?_⟩
     cases kt with
     |none=>trivial
     |some p=>
      obtain⟨t,u⟩:=p;have hne:o.dst≠some t:=by
       intro hdt;have htr:t∈(((its.map sReads)[k]?).getD []):=by simp[List.getElem?_map,hkt,sReads]
       rcases flow_reads hck hok ho htr hdt with h|h
       ·subst h;rw[hunf]at hkl'
        cases hkl'
       ·have:=hkd i h;rw[hunf]at this
        cases this
      show _=u
      rw[put_getD _ _ _ _ hne];exact hkh
def StepOk3(P:Program)(ops:Array Oper)(Q:Exit→Act→World→Prop)(F:List (Nat×Value))(sz:Nat)(Th:Nat→World→Prop)(its:List (Option (Nat×Value)))(r:Option Nat)(o:Oper)(s:Option (Nat×Value)):Prop:=
 ∀a w c,Th c w→(∀k,r=some k→c=k)→SzIs a sz→LiveAll F a→SDeps its a (deps o)→
  ∀K:Act→World→Prop,(∀v w',SHolds s (a.put o.dst v)→Th (after r c) w'→K (a.put o.dst v) w')→if Region.wanted o (yielded ops a.tmps)=true then o.wp P a w K Q else K (a.put o.dst undef) w
def StepsOk3(P:Program)(ops:Array Oper)(Q:Exit→Act→World→Prop)(F:List (Nat×Value))(sz:Nat)(Th:Nat→World→Prop)(all:List (Option (Nat×Value))):List (Option Nat)→List Oper→List (Option (Nat×Value))→Prop
 |r::rs,o::os,s::ss=>StepOk3 P ops Q F sz Th all r o s∧StepsOk3 P ops Q F sz Th all rs os ss
 |_,_,_=>True
theorem StepsOk3.get{F:List (Nat×Value)}{sz:Nat}{Th:Nat→World→Prop}{all:List (Option (Nat×Value))}:∀(rs:List (Option Nat)) (os:List Oper) (ss:List (Option (Nat×Value))),StepsOk3 P ops Q F sz Th all rs os ss→∀(i:Nat) (r:Option Nat) (o:Oper) (s:Option (Nat×Value)),rs[i]?=some r→os[i]?=some o→ss[i]?=some s→StepOk3 P ops Q F sz Th all r o s
 | [],_,_,_,i,r,o,s,hr,_,_=>by simp at hr
 |_::_,[],_,_,i,r,o,s,_,ho,_=>by simp at ho
 |_::_,_::_,[],_,i,r,o,s,_,_,hs=>by simp at hs
 |r::rs,o::os,s::ss,h,0,r',o',s',hr,ho,hs=>by
  simp at hr ho hs;subst hr ho hs;exact h.1
 |r::rs,o::os,s::ss,h,i+1,r',o',s',hr,ho,hs=>StepsOk3.get rs os ss h.2 i r' o' s' (by simpa using hr) (by simpa using ho) (by simpa using hs)
theorem sdeps_of{its:List (Option (Nat×Value))}{a:Act}:∀l:List Nat,(∀j∈l,∀(t:Option (Nat×Value)),its[j]?=some t→SHolds t a)→SDeps its a l
 | [],_=>trivial
 |j::js,h=>⟨by
   cases hj:its[j]? with
   |none=>trivial
   |some t=>exact h j (List.mem_cons_self ..) t hj,sdeps_of js fun k hk=>h k (List.mem_cons_of_mem _ hk)⟩
theorem sall_of{a:Act}:∀its:List (Option (Nat×Value)),(∀(i:Nat) (s:Option (Nat×Value)),its[i]?=some s→SHolds s a)→SAll a its
 | [],_=>trivial
 |s::its,h=>⟨h 0 s rfl,sall_of its fun i t hj=>h (i+1) t (by simpa using hj)⟩
theorem wp_flow3_use{id:Nat}(F:List (Nat×Value))(its:List (Option (Nat×Value)))(th:List Nat)(rs:List (Option Nat))(Th:Nat→World→Prop){a0:Act}{W:World}(sz:Nat)(hm:P.follows .mixedOrders=true)(hck:flowOk ops (its.map sReads)=true)(hch:chainOk ops th=true)(hrs:(List.range ops.size).map (rankOf th)=rs)
  (hlk:liveOk ops (F.map (·.1))=true)(hsz:SzIs a0 sz)(hdf:DfNil a0)(hl:LiveAll F a0)(h0:Th 0 W.drew)(hstep:StepsOk3 P ops Q F sz Th its rs ops.toList its)
  (hend:∀a w,Th th.length w→SzIs a sz→DfNil a→LiveAll F a→SAll a its→Q .normal a w):(Code.region id ops true).wp P Q a0 W:=
 wp_region_any hm (wpAny_flow3 its th Th a0 hck hch
  (fun i o s ho hit a w c hT hr hs hd K hK=>StepsOk3.get rs _ _ hstep i (rankOf th i) o s (by
    have hi:i<ops.size:=(Array.getElem?_eq_some_iff.1 ho).1;rw[← hrs];simp[hi]) (by simpa using ho) hit a w c hT hr ⟨hs.1.trans hsz.out⟩ (live_of_same hs F hlk hl) (sdeps_of _ hd) K hK)
  (fun a w hT hs hh=>hend a w hT ⟨hs.1.trans hsz.out⟩ ⟨hs.2.1.trans hdf.out⟩ (live_of_same hs F hlk hl) (sall_of its hh))
  ops.size (Array.replicate ops.size false) a0 _ 0 (by simp) (Nat.le_trans (List.countP_le_length) (by simp)) h0 (Nat.zero_le _)
  (fun k i _=>⟨fun h=>absurd h (by rw[getD_replicate_false];decide),fun h=>absurd h (Nat.not_lt_zero _)⟩) ⟨rfl,rfl,fun _ _=>rfl⟩ (fun i o s ho hit hl=>by
   have hi:i<ops.size:=(Array.getElem?_eq_some_iff.1 ho).1;simp[Array.getD_eq_getD_getElem?,hi]at hl))
theorem sdep_get0{its:List (Option (Nat×Value))}{a:Act}:∀{l:List Nat},SDeps its a l→∀j,l.contains j=true→(match its[j]? with|some t=>SHolds t a|none=>True)
 | [],_,j,hj=>by simp at hj
 |k::ks,h,j,hj=>by
  by_cases e:j=k
  ·subst e;exact h.1
  ·exact sdep_get0 h.2 j (by simpa [e]using hj)
theorem sdep_get{its:List (Option (Nat×Value))}{a:Act}{l:List Nat}(h:SDeps its a l)(j:Nat)(hj:l.contains j=true){t:Nat}{v:Value}(hi:its[j]?=some (some (t,v))):a.tmps.getD t undef=v:=by
 have:=sdep_get0 h j hj;rw[hi]at this;exact this
theorem sall_get{a:Act}:∀{its:List (Option (Nat×Value))},SAll a its→∀j:Nat,(match its[j]? with|some t=>SHolds t a|none=>True)
 | [],_,j=>by simp
 |s::its,h,0=>h.1
 |s::its,h,j+1=>by simpa using sall_get h.2 j
theorem sall_eq{its:List (Option (Nat×Value))}{a:Act}(h:SAll a its)(j:Nat){t:Nat}{v:Value}(hi:its[j]?=some (some (t,v))):a.tmps.getD t undef=v:=by
 have:=sall_get h j;rw[hi]at this;exact this
theorem s_put{a:Act}{d:Nat}{v:Value}{sz:Nat}(hs:SzIs a sz)(hd:d<sz):SHolds (some (d,v)) (a.put (some d) v):=put_eq hs hd
end
noncomputable def bgOuter:Code:=((Tryz.f99.body.bind (loopIn 0)).getD .skip)
theorem bg_block{Q:Exit→Act→World→Prop}{b o g p n' c' B:Nat}{l:List Int}{S:ShaSt}{w0:World}(a:Act)(w:World)(hs:SzIs a 283)(hd:DfNil a)
  (s0:a.tmps.getD 0 undef=.pointer (some ⟨g,0,none⟩))(s1:a.tmps.getD 1 undef=.slice (some ⟨b,o,none⟩) n' c')(s4:a.tmps.getD 4 undef=.pointer (some ⟨B,0,none⟩))(s5:a.tmps.getD 5 undef=.int .u32 S.a)(s6:a.tmps.getD 6 undef=.int .u32 S.b)(s7:a.tmps.getD 7 undef=.int .u32 S.c)(s8:a.tmps.getD 8 undef=.int .u32 S.d)(s9:a.tmps.getD 9 undef=.int .u32 S.e)(s10:a.tmps.getD 10 undef=.int .u32 S.f)(s11:a.tmps.getD 11 undef=.int .u32 S.g)(s12:a.tmps.getD 12 undef=.int .u32 S.h)
  (hn:64≤n')(hn':n'≤1000000000000)(hc:n'≤c')(hG:GB w0 w B)(hS:Sched w B 99 l p 0)(hKt:KTab w0 1)(hB0:B≠1)(hP:BytesAt w0 b o l p 64)(hbB:b≠B)(hl8:Bytes l)
  (hQ:∀(a:Act) (w:World) (P:Option Addr),(n'-64=0∨P=some ⟨b,o+64,none⟩)→SzIs a 283→DfNil a→LiveAll [(0,.pointer (some ⟨g,0,none⟩)),(1,.slice P (n'-64) (c'-64)),(4,.pointer (some ⟨B,0,none⟩)),(5,.int .u32 (shaBlk l p S).a),(6,.int .u32 (shaBlk l p S).b),(7,.int .u32 (shaBlk l p S).c),(8,.int .u32 (shaBlk l p S).d),(9,.int .u32 (shaBlk l p S).e),(10,.int .u32 (shaBlk l p S).f),(11,.int .u32 (shaBlk l p S).g),(12,.int .u32 (shaBlk l p S).h)] a→GB w0 w B→Sched w B 99 l p 64→Q .normal a w):
  bgOuter.wp Tryz.prog Q a w:=by
 conv=>arg 2;whnf
 refine wp_seq ?_;refine wp_seq ?_;have hdn:decide ((64:Int)≤(n':Int))=true:=by simp;omega
 refine fl2 (F:=[(0,_),(1,_),(4,_),(5,_),(6,_),(7,_),(8,_),(9,_),(10,_),(11,_),(12,_)]) [.eq 69 _,.eq 70 _] 2 hs hd ⟨s0,s1,s4,s5,s6,s7,s8,s9,s10,s11,s12,trivial⟩
  ⟨sP bq,
   sP bq,
   trivial⟩ ?_
 clear hs hd s0 s1 s4 s5 s6 s7 s8 s9 s10 s11 s12;intro a w hb hs hd zl hh;replace zl:=lH hh 1 zl;clear hh;replace hG:=hG.after hb;replace hS:=hS.after hb;clear hb;refine wn 1 ?_;clear hs hd zl;intro a hs hd zl;clear hdn;refine wp_cond_true (vL zl 0) ?_;refine wp_skip ?_;refine wp_block ?_;refine wp_seq ?_;refine fl2 [.eq 72 _,.eq 73 _,.eq 74 _,.eq 75 _,.eq 76 _,.eq 77 _,.eq 78 _,.eq 79 _,.eq 13 _,.eq 14 _,.eq 15 _,.eq 16 _,.eq 17 _,.eq 18 _,.eq 19 _] 15 hs hd zl
  ⟨sP bq,
   sP bq,
   sP bq,
   sP bq,
   sP bq,
   sP bq,
   sP bq,
   sP bq,
   sP bq,
   sP bq,
   sP bq,
   sP bq,
   sP bq,
   sP bq,
   sP bq,
   trivial⟩ ?_
 clear hs hd zl;intro a w hb hs hd zl hh;replace zl:=lH hh 8 zl;replace zl:=lH hh 9 zl;replace zl:=lH hh 10 zl;replace zl:=lH hh 11 zl;replace zl:=lH hh 12 zl;replace zl:=lH hh 13 zl;replace zl:=lH hh 14 zl;replace zl:=lH hh 7 zl;clear hh;replace hG:=hG.after hb;replace hS:=hS.after hb;clear hb;refine wn 2 ?_;clear hs hd zl;intro a hs hd zl;refine wp_block ?_;obtain⟨s80,s20,-,s19,s18,s17,s16,s15,s14,s13,-,-,s0,s1,s4,s5,s6,s7,s8,s9,s10,s11,s12,-⟩:=zl;refine bg_inner a w hs hd s0 s1 s4 s5 s6 s7 s8 s9 s10 s11 s12 s13 s14 s15 s16 s17 s18 s19 s20 s80 hn hn' hG hS hKt hB0 hP hbB hl8 ?_;clear hs hd hG hS s0 s1 s4 s5 s6 s7 s8 s9 s10 s11 s12 s13 s14 s15 s16 s17 s18 s19 s20 s80;rintro a w R hR hs hd ⟨s0,s1,s4,s5,s6,s7,s8,s9,s10,s11,s12,s13,s14,s15,s16,s17,s18,s19,s20,-⟩ hG hS;refine inBlock_exit ?_;refine wp_seq ?_;refine fl2 (F:=[(0,_),(1,_),(4,_),(5,_),(6,_),(7,_),(8,_),(9,_),(10,_),(11,_),(12,_),(13,_),(14,_),(15,_),(16,_),(17,_),(18,_),(19,_),(20,_)]) [.eq 217 _,.eq 218 _,.eq 219 (.int .u32 (add32 S.a R.a))] 3 hs hd ⟨s0,s1,s4,s5,s6,s7,s8,s9,s10,s11,s12,s13,s14,s15,s16,s17,s18,s19,s20,trivial⟩
  ⟨sP bq,
   sP bq,
   sP bq,
   trivial⟩ ?_
 clear hs hd s0 s1 s4 s5 s6 s7 s8 s9 s10 s11 s12 s13 s14 s15 s16 s17 s18 s19 s20;intro a w hb hs hd zl hh;replace zl:=lH hh 2 zl;clear hh;replace hG:=hG.after hb;replace hS:=hS.after hb;clear hb;show wpList _ _ _ [_] _ _
 refine tail_op rfl (fun K hK=>?_);have q219:=gL zl 0;go_simp;clear q219;refine hK _ _ ?_;clear hK K;obtain⟨s219,s0,s1,s4,s5,s6,s7,s8,s9,s10,s11,s12,s13,s14,s15,s16,s17,s18,s19,s20,-⟩:=zl;refine act_put (d:=5) _ hs hd (by decide) [(0,_),(1,_),(4,_),(6,_),(7,_),(8,_),(9,_),(10,_),(11,_),(12,_),(13,_),(14,_),(15,_),(16,_),(17,_),(18,_),(19,_),(20,_),(219,_)] ⟨s0,s1,s4,s6,s7,s8,s9,s10,s11,s12,s13,s14,s15,s16,s17,s18,s19,s20,s219,trivial⟩ rfl ?_;clear hs hd s0 s1 s4 s5 s6 s7 s8 s9 s10 s11 s12 s13 s14 s15 s16 s17 s18 s19 s20 s219;intro a hs hd zl;refine wp_seq ?_;refine fl2 [.eq 220 _,.eq 221 _,.eq 222 (.int .u32 (add32 S.b R.b))] 3 hs hd zl
  ⟨sP bq,
   sP bq,
   sP bq,
   trivial⟩ ?_
 clear hs hd zl;intro a w hb hs hd zl hh;replace zl:=lH hh 2 zl;clear hh;replace hG:=hG.after hb;replace hS:=hS.after hb;clear hb;show wpList _ _ _ [_] _ _
 refine tail_op rfl (fun K hK=>?_);have q222:=gL zl 0;go_simp;clear q222;refine hK _ _ ?_;clear hK K;obtain⟨s222,s5,s0,s1,s4,s6,s7,s8,s9,s10,s11,s12,s13,s14,s15,s16,s17,s18,s19,s20,-,-⟩:=zl;refine act_put (d:=6) _ hs hd (by decide) [(0,_),(1,_),(4,_),(5,_),(7,_),(8,_),(9,_),(10,_),(11,_),(12,_),(13,_),(14,_),(15,_),(16,_),(17,_),(18,_),(19,_),(20,_),(222,_)] ⟨s0,s1,s4,s5,s7,s8,s9,s10,s11,s12,s13,s14,s15,s16,s17,s18,s19,s20,s222,trivial⟩ rfl ?_;clear hs hd s0 s1 s4 s5 s6 s7 s8 s9 s10 s11 s12 s13 s14 s15 s16 s17 s18 s19 s20 s222;intro a hs hd zl;refine wp_seq ?_;refine fl2 [.eq 223 _,.eq 224 _,.eq 225 (.int .u32 (add32 S.c R.c))] 3 hs hd zl
  ⟨sP bq,
   sP bq,
   sP bq,
   trivial⟩ ?_
 clear hs hd zl;intro a w hb hs hd zl hh;replace zl:=lH hh 2 zl;clear hh;replace hG:=hG.after hb;replace hS:=hS.after hb;clear hb;show wpList _ _ _ [_] _ _
 refine tail_op rfl (fun K hK=>?_);have q225:=gL zl 0;go_simp;clear q225;refine hK _ _ ?_;clear hK K;obtain⟨s225,s6,s0,s1,s4,s5,s7,s8,s9,s10,s11,s12,s13,s14,s15,s16,s17,s18,s19,s20,-,-⟩:=zl;refine act_put (d:=7) _ hs hd (by decide) [(0,_),(1,_),(4,_),(5,_),(6,_),(8,_),(9,_),(10,_),(11,_),(12,_),(13,_),(14,_),(15,_),(16,_),(17,_),(18,_),(19,_),(20,_),(225,_)] ⟨s0,s1,s4,s5,s6,s8,s9,s10,s11,s12,s13,s14,s15,s16,s17,s18,s19,s20,s225,trivial⟩ rfl ?_;clear hs hd s0 s1 s4 s5 s6 s7 s8 s9 s10 s11 s12 s13 s14 s15 s16 s17 s18 s19 s20 s225;intro a hs hd zl;refine wp_seq ?_;refine fl2 [.eq 226 _,.eq 227 _,.eq 228 (.int .u32 (add32 S.d R.d))] 3 hs hd zl
  ⟨sP bq,
   sP bq,
   sP bq,
   trivial⟩ ?_
 clear hs hd zl;intro a w hb hs hd zl hh;replace zl:=lH hh 2 zl;clear hh;replace hG:=hG.after hb;replace hS:=hS.after hb;clear hb;show wpList _ _ _ [_] _ _
 refine tail_op rfl (fun K hK=>?_);have q228:=gL zl 0;go_simp;clear q228;refine hK _ _ ?_;clear hK K;obtain⟨s228,s7,s0,s1,s4,s5,s6,s8,s9,s10,s11,s12,s13,s14,s15,s16,s17,s18,s19,s20,-,-⟩:=zl;refine act_put (d:=8) _ hs hd (by decide) [(0,_),(1,_),(4,_),(5,_),(6,_),(7,_),(9,_),(10,_),(11,_),(12,_),(13,_),(14,_),(15,_),(16,_),(17,_),(18,_),(19,_),(20,_),(228,_)] ⟨s0,s1,s4,s5,s6,s7,s9,s10,s11,s12,s13,s14,s15,s16,s17,s18,s19,s20,s228,trivial⟩ rfl ?_;clear hs hd s0 s1 s4 s5 s6 s7 s8 s9 s10 s11 s12 s13 s14 s15 s16 s17 s18 s19 s20 s228;intro a hs hd zl;refine wp_seq ?_;refine fl2 [.eq 229 _,.eq 230 _,.eq 231 (.int .u32 (add32 S.e R.e))] 3 hs hd zl
  ⟨sP bq,
   sP bq,
   sP bq,
   trivial⟩ ?_
 clear hs hd zl;intro a w hb hs hd zl hh;replace zl:=lH hh 2 zl;clear hh;replace hG:=hG.after hb;replace hS:=hS.after hb;clear hb;show wpList _ _ _ [_] _ _
 refine tail_op rfl (fun K hK=>?_);have q231:=gL zl 0;go_simp;clear q231;refine hK _ _ ?_;clear hK K;obtain⟨s231,s8,s0,s1,s4,s5,s6,s7,s9,s10,s11,s12,s13,s14,s15,s16,s17,s18,s19,s20,-,-⟩:=zl;refine act_put (d:=9) _ hs hd (by decide) [(0,_),(1,_),(4,_),(5,_),(6,_),(7,_),(8,_),(10,_),(11,_),(12,_),(13,_),(14,_),(15,_),(16,_),(17,_),(18,_),(19,_),(20,_),(231,_)] ⟨s0,s1,s4,s5,s6,s7,s8,s10,s11,s12,s13,s14,s15,s16,s17,s18,s19,s20,s231,trivial⟩ rfl ?_;clear hs hd s0 s1 s4 s5 s6 s7 s8 s9 s10 s11 s12 s13 s14 s15 s16 s17 s18 s19 s20 s231;intro a hs hd zl;refine wp_seq ?_;refine fl2 [.eq 232 _,.eq 233 _,.eq 234 (.int .u32 (add32 S.f R.f))] 3 hs hd zl
  ⟨sP bq,
   sP bq,
   sP bq,
   trivial⟩ ?_
 clear hs hd zl;intro a w hb hs hd zl hh;replace zl:=lH hh 2 zl;clear hh;replace hG:=hG.after hb;replace hS:=hS.after hb;clear hb;show wpList _ _ _ [_] _ _
 refine tail_op rfl (fun K hK=>?_);have q234:=gL zl 0;go_simp;clear q234;refine hK _ _ ?_;clear hK K;obtain⟨s234,s9,s0,s1,s4,s5,s6,s7,s8,s10,s11,s12,s13,s14,s15,s16,s17,s18,s19,s20,-,-⟩:=zl;refine act_put (d:=10) _ hs hd (by decide) [(0,_),(1,_),(4,_),(5,_),(6,_),(7,_),(8,_),(9,_),(11,_),(12,_),(13,_),(14,_),(15,_),(16,_),(17,_),(18,_),(19,_),(20,_),(234,_)] ⟨s0,s1,s4,s5,s6,s7,s8,s9,s11,s12,s13,s14,s15,s16,s17,s18,s19,s20,s234,trivial⟩ rfl ?_;clear hs hd s0 s1 s4 s5 s6 s7 s8 s9 s10 s11 s12 s13 s14 s15 s16 s17 s18 s19 s20 s234;intro a hs hd zl;refine wp_seq ?_;refine fl2 [.eq 235 _,.eq 236 _,.eq 237 (.int .u32 (add32 S.g R.g))] 3 hs hd zl
  ⟨sP bq,
   sP bq,
   sP bq,
   trivial⟩ ?_
 clear hs hd zl;intro a w hb hs hd zl hh;replace zl:=lH hh 2 zl;clear hh;replace hG:=hG.after hb;replace hS:=hS.after hb;clear hb;show wpList _ _ _ [_] _ _
 refine tail_op rfl (fun K hK=>?_);have q237:=gL zl 0;go_simp;clear q237;refine hK _ _ ?_;clear hK K;obtain⟨s237,s10,s0,s1,s4,s5,s6,s7,s8,s9,s11,s12,s13,s14,s15,s16,s17,s18,s19,s20,-,-⟩:=zl;refine act_put (d:=11) _ hs hd (by decide) [(0,_),(1,_),(4,_),(5,_),(6,_),(7,_),(8,_),(9,_),(10,_),(12,_),(13,_),(14,_),(15,_),(16,_),(17,_),(18,_),(19,_),(20,_),(237,_)] ⟨s0,s1,s4,s5,s6,s7,s8,s9,s10,s12,s13,s14,s15,s16,s17,s18,s19,s20,s237,trivial⟩ rfl ?_;clear hs hd s0 s1 s4 s5 s6 s7 s8 s9 s10 s11 s12 s13 s14 s15 s16 s17 s18 s19 s20 s237;intro a hs hd zl;refine wp_seq ?_;refine fl2 [.eq 238 _,.eq 239 _,.eq 240 (.int .u32 (add32 S.h R.h))] 3 hs hd zl
  ⟨sP bq,
   sP bq,
   sP bq,
   trivial⟩ ?_
 clear hs hd zl;intro a w hb hs hd zl hh;replace zl:=lH hh 2 zl;clear hh;replace hG:=hG.after hb;replace hS:=hS.after hb;clear hb;show wpList _ _ _ [_] _ _
 refine tail_op rfl (fun K hK=>?_);have q240:=gL zl 0;go_simp;clear q240;refine hK _ _ ?_;clear hK K;obtain⟨s240,s11,s0,s1,s4,s5,s6,s7,s8,s9,s10,s12,s13,s14,s15,s16,s17,s18,s19,s20,-,-⟩:=zl;refine act_put (d:=12) _ hs hd (by decide) [(0,_),(1,_),(4,_),(5,_),(6,_),(7,_),(8,_),(9,_),(10,_),(11,_),(13,_),(14,_),(15,_),(16,_),(17,_),(18,_),(19,_),(20,_),(240,_)] ⟨s0,s1,s4,s5,s6,s7,s8,s9,s10,s11,s13,s14,s15,s16,s17,s18,s19,s20,s240,trivial⟩ rfl ?_;clear hs hd s0 s1 s4 s5 s6 s7 s8 s9 s10 s11 s12 s13 s14 s15 s16 s17 s18 s19 s20 s240;intro a hs hd zl;have hq1:(64:Int)≤(n':Int):=by omega
 have hq2:(n':Int)≤(c':Int):=by omega
 refine fl2 [.eq 241 _,.eq 242 _] 2 hs hd zl
  ⟨sP bq,
   sP bq,
   trivial⟩ ?_
 clear hs hd zl;intro a w hb hs hd zl hh;replace zl:=lH hh 1 zl;clear hh;replace hG:=hG.after hb;replace hS:=hS.after hb;clear hb;show wpList _ _ _ [_] _ _
 refine tail_op rfl (fun K hK=>?_);have q242:=gL zl 0;go_simp;clear q242;refine hK _ _ ?_;clear hK K;obtain⟨s242,s12,s0,s1,s4,s5,s6,s7,s8,s9,s10,s11,-,-,-,-,-,-,-,-,-,-⟩:=zl;refine act_put (d:=1) _ hs hd (by decide) [(0,_),(4,_),(5,_),(6,_),(7,_),(8,_),(9,_),(10,_),(11,_),(12,_),(242,_)] ⟨s0,s4,s5,s6,s7,s8,s9,s10,s11,s12,s242,trivial⟩ rfl ?_;clear hs hd s0 s1 s4 s5 s6 s7 s8 s9 s10 s11 s12 s242;intro a hs hd zl;obtain rfl:=hR.out;obtain⟨s1,s0,s4,s5,s6,s7,s8,s9,s10,s11,s12,-,-⟩:=zl;refine hQ a w _ ?_ hs hd ⟨s0,s1,s4,s5,s6,s7,s8,s9,s10,s11,s12,trivial⟩ hG hS;by_cases h:n'-64=0
 ·exact .inl h
 ·exact .inr (by rw[if_neg (by omega)])
theorem c_blockGeneric(g b o:Nat)(s:ShaSt)(x:Array Value)(nx ln:Int)(c:Nat)(l:List Int)(w:World)(hl:l.length % 64=0)(hlen:l.length≤1000000000000)(hcap:l.length≤c)
  (hg:Blk w g 188 (dig s x nx ln))(hx:x.size=64)(hl8:Bytes l)(hP:BytesAt w b o l 0 l.length)(hbs:b<w.heap.size)(hKt:KTab w 1):
  Calls Tryz.prog 99 #[.pointer (some ⟨g,0,none⟩),.slice (some ⟨b,o,none⟩) l.length c] w fun e w'=>e=.returned (.tuple #[])∧w.grownBy w' (some g)∧Blk w' g 188 (dig (shaBlks l 0 (l.length / 64) s) x nx ln):=by
 have hlt:=hg.lt;refine enter_abs Tryz.func99 rfl 283 rfl (by simp) ?_;intro a hs hd hargs;have s0:=hargs 0 _ rfl;have s1:=hargs 1 _ rfl;clear hargs;obtain⟨B,hBe⟩:∃B,Is w.heap.size B:=is_self _;have hKlt:1<w.heap.size:=World.block_lt_of_cell? w _ (hKt 0 (by decide));have hB0:B≠1:=by rw[← hBe.out];omega
 have hbB:b≠B:=by rw[← hBe.out];omega
 have hgB:g≠B:=by rw[← hBe.out];omega
 refine wp_seq ?_;refine wp_region_list ?_;show wpList _ _ _ [_] _ _
 refine tail_op rfl (fun K hK=>?_);go_simp;refine hK _ _ ?_;clear hK K;refine act_put (d:=4) _ hs hd (by decide) [(0,_),(1,_)] ⟨s0,s1,trivial⟩ rfl ?_;clear hs hd s0 s1;intro a hs hd zl;generalize hw1:World.alloc w _=w1;have hS:Sched w1 B 99 l 0 0:=by rw[← hw1,← hBe.out];exact⟨_,Blk.new w _ _,rfl,fun j hj=>absurd hj (Nat.not_lt_zero j)⟩
 have hB:Below w.heap.size w w1:=by rw[← hw1];exact bz_alloc (bz_refl w) _
 replace hP:=hP.after hB;replace hKt:=hKt.after hB;replace hg:=hg.after hB;clear hw1;obtain⟨s4,s0,s1,-⟩:=zl;rw[hBe.out]at s4;refine wp_seq ?_;have g0:w1.cell? ⟨g,0,none⟩=some (.int .u32 s.a):=by rw[hg.cell];rfl
 have g1:w1.cell? ⟨g,1,none⟩=some (.int .u32 s.b):=by rw[hg.cell];rfl
 have g2:w1.cell? ⟨g,2,none⟩=some (.int .u32 s.c):=by rw[hg.cell];rfl
 have g3:w1.cell? ⟨g,3,none⟩=some (.int .u32 s.d):=by rw[hg.cell];rfl
 have g4:w1.cell? ⟨g,4,none⟩=some (.int .u32 s.e):=by rw[hg.cell];rfl
 have g5:w1.cell? ⟨g,5,none⟩=some (.int .u32 s.f):=by rw[hg.cell];rfl
 have g6:w1.cell? ⟨g,6,none⟩=some (.int .u32 s.g):=by rw[hg.cell];rfl
 have g7:w1.cell? ⟨g,7,none⟩=some (.int .u32 s.h):=by rw[hg.cell];rfl
 refine fl2 (F:=[(0,_),(1,_),(4,_)]) [FItem.eq 29 _,FItem.eq 30 _,FItem.eq 31 _,FItem.eq 32 _,FItem.eq 33 _,FItem.eq 34 _,FItem.eq 35 _,FItem.eq 36 _,FItem.eq 37 _,FItem.eq 38 _,FItem.eq 39 _,FItem.eq 40 _,FItem.eq 41 _,FItem.eq 42 _,FItem.eq 43 _,FItem.eq 44 _,FItem.eq 45 _,FItem.eq 46 _,FItem.eq 47 _,FItem.eq 48 _,FItem.eq 49 _,FItem.eq 50 _,FItem.eq 51 _,FItem.eq 52 _,FItem.eq 53 _,FItem.eq 54 _,FItem.eq 55 _,FItem.eq 56 _,FItem.eq 57 _,FItem.eq 58 _,FItem.eq 59 _,FItem.eq 60 _,FItem.eq 61 _,FItem.eq 62 _,FItem.eq 63 _,FItem.eq 64 _,FItem.eq 65 _,FItem.eq 66 _,FItem.eq 67 _,FItem.eq 68 _,FItem.eq 5 _,FItem.eq 6 _,FItem.eq 7 _,FItem.eq 8 _,FItem.eq 9 _,FItem.eq 10 _,FItem.eq 11 _] 47 hs hd ⟨s0,s1,s4,trivial⟩
  ⟨sP bq,
   sP bq,
   sP bq,
   sP bq,
   sP bq,
   sP bq,
   sP bq,
   sP bq,
   sP bq,
   sP bq,
   sP bq,
   sP bq,
   sP bq,
   sP bq,
   sP bq,
   sP bq,
   sP bq,
   sP bq,
   sP bq,
   sP bq,
   sP bq,
   sP bq,
   sP bq,
   sP bq,
   sP bq,
   sP bq,
   sP bq,
   sP bq,
   sP bq,
   sP bq,
   sP bq,
   sP bq,
   sP bq,
   sP bq,
   sP bq,
   sP bq,
   sP bq,
   sP bq,
   sP bq,
   sP bq,
   sP bq,
   sP bq,
   sP bq,
   sP bq,
   sP bq,
   sP bq,
   sP bq,
   trivial⟩ ?_
 clear hs hd s0 s1 s4;intro a w hb hs hd zl hh;replace zl:=lH hh 40 zl;replace zl:=lH hh 41 zl;replace zl:=lH hh 42 zl;replace zl:=lH hh 43 zl;replace zl:=lH hh 44 zl;replace zl:=lH hh 45 zl;replace zl:=lH hh 46 zl;replace zl:=lH hh 39 zl;clear hh;replace hg:=hg.after hb;replace hP:=hP.after hb;replace hKt:=hKt.after hb;replace hS:=hS.after hb;replace g0:=cell_up hb g0;replace g1:=cell_up hb g1;replace g2:=cell_up hb g2;replace g3:=cell_up hb g3;replace g4:=cell_up hb g4;replace g5:=cell_up hb g5;replace g6:=cell_up hb g6;replace g7:=cell_up hb g7;replace hB:=bz_then hB hb;clear hb;refine wn 1 ?_;clear hs hd zl;intro a hs hd zl;clear g0 g1 g2 g3 g4 g5 g6 g7;refine wp_seq ?_;refine wp_block ?_;obtain⟨w2,hw2⟩:∃w2,Is w w2:=is_self _;obtain⟨s12,-,s11,s10,s9,s8,s7,s6,s5,s0,s1,s4,-⟩:=zl;refine wp_loop (fun a wr=>∃q n' c':Nat,∃P:Option Addr,∃S:ShaSt,n'+64*q=l.length∧(n'=0∨P=some ⟨b,o+64*q,none⟩)∧n'≤c'∧Is S (shaBlks l 0 q s)∧SzIs a 283∧DfNil a∧LiveAll [(0,.pointer (some ⟨g,0,none⟩)),(1,.slice P n' c'),(4,.pointer (some ⟨B,0,none⟩)),(5,.int .u32 S.a),(6,.int .u32 S.b),(7,.int .u32 S.c),(8,.int .u32 S.d),(9,.int .u32 S.e),(10,.int .u32 S.f),(11,.int .u32 S.g),(12,.int .u32 S.h)] a∧GB w wr B∧Sched wr B 99 l 0 0)
  (fun a _=>match a.tmps.getD 1 undef with| .slice _ n _=>n|_=>0) ⟨0,l.length,c,_,s,by omega,.inr rfl,hcap,rfl,hs,hd,⟨s0,s1,s4,s5,s6,s7,s8,s9,s10,s11,s12,trivial⟩,GB.refl _ _,hS⟩ ?_
 clear hs hd s0 s1 s4 s5 s6 s7 s8 s9 s10 s11 s12 hS a;rintro a wr ⟨q,n',c',P,S,hn,ho,hc',hSS,hs,hd,⟨s0,s1,s4,s5,s6,s7,s8,s9,s10,s11,s12,-⟩,hG,hS⟩;by_cases hn0:n'=0
 ·obtain rfl:q=l.length / 64:=by omega
  subst hn0;clear hP hKt;refine wp_seq ?_;refine wp_seq ?_;refine fl2 (F:=[(0,_),(1,_),(4,_),(5,_),(6,_),(7,_),(8,_),(9,_),(10,_),(11,_),(12,_)]) [.eq 69 _,.eq 70 _] 2 hs hd ⟨s0,s1,s4,s5,s6,s7,s8,s9,s10,s11,s12,trivial⟩
   ⟨sP bq,
    sP bq,
    trivial⟩ ?_
  clear hs hd s0 s1 s4 s5 s6 s7 s8 s9 s10 s11 s12;intro a w hb hs hd zl hh;replace zl:=lH hh 1 zl;clear hh;replace hG:=hG.after hb;replace hS:=hS.after hb;clear hb;refine wn 1 ?_;clear hs hd zl;intro a hs hd zl;refine wp_cond_false (vL zl 0) ?_;refine wp_exit ?_;repeat refine then_exit ?_
  refine inBlock_exit ?_;have hgw:=gb_blk hG hg (fun e=>hgB (by injection e));replace hB:=GB.below2 hB hG (Nat.le_of_eq hBe.out);clear hg hG hS;have hE:=gb_below hB (some g);clear hB;obtain⟨s71,-,s0,s1,s4,s5,s6,s7,s8,s9,s10,s11,s12,-⟩:=zl;refine wp_flow3_use [(0,_),(1,_),(4,_),(5,_),(6,_),(7,_),(8,_),(9,_),(10,_),(11,_),(12,_),(71,_)]
   [some (243,_),some (244,_),some (245,_),some (246,_),some (247,_),some (248,_),some (249,_),some (250,_),some (251,_),some (252,_),some (253,_),some (254,_),some (255,_),some (256,_),some (257,_),some (258,_),some (259,_),some (260,_),some (261,_),none,some (262,_),some (263,_),some (264,_),none,some (265,_),some (266,_),some (267,_),none,some (268,_),some (269,_),some (270,_),none,some (271,_),some (272,_),some (273,_),none,some (274,_),some (275,_),some (276,_),none,some (277,_),some (278,_),some (279,_),none,some (280,_),some (281,_),some (282,_),none]
   [19,23,27,31,35,39,43,47] [none,none,none,none,none,none,none,none,none,none,none,none,none,none,none,none,none,none,none,some 0,none,none,none,some 1,none,none,none,some 2,none,none,none,some 3,none,none,none,some 4,none,none,none,some 5,none,none,none,some 6,none,none,none,some 7]
   (fun k u=>World.grownBy _ u (some g)∧Blk u g 188 (putH S (dig s x nx ln) k))
   283 (by kernel_rfl) (by kernel_rfl) (by kernel_rfl) (by kernel_rfl) (by kernel_rfl) hs hd ⟨s0,s1,s4,s5,s6,s7,s8,s9,s10,s11,s12,s71,trivial⟩ ⟨gb_drew hE,hgw.drew⟩
   ⟨(fun a u c hT hr hs hl hd K hK=>by
     obtain⟨l0,-,-,-,-,-,-,-,-,-,-,-,-⟩:=hl;have s0:=gd l0;clear hd;refine step_plain rfl ?_;go_simp;exact hK _ _ (s_put hs (by decide)) hT),
    (fun a u c hT hr hs hl hd K hK=>by
     obtain⟨l0,-,-,-,-,-,-,-,-,-,-,-,-⟩:=hl;have s0:=gd l0;clear hd;refine step_plain rfl ?_;go_simp;exact hK _ _ (s_put hs (by decide)) hT),
    (fun a u c hT hr hs hl hd K hK=>by
     obtain⟨l0,-,-,-,-,-,-,-,-,-,-,-,-⟩:=hl;have s0:=gd l0;clear hd;refine step_plain rfl ?_;go_simp;exact hK _ _ (s_put hs (by decide)) hT),
    (fun a u c hT hr hs hl hd K hK=>by
     obtain⟨l0,-,-,-,-,-,-,-,-,-,-,-,-⟩:=hl;have s0:=gd l0;clear hd;refine step_plain rfl ?_;go_simp;exact hK _ _ (s_put hs (by decide)) hT),
    (fun a u c hT hr hs hl hd K hK=>by
     obtain⟨l0,-,-,-,-,-,-,-,-,-,-,-,-⟩:=hl;have s0:=gd l0;clear hd;refine step_plain rfl ?_;go_simp;exact hK _ _ (s_put hs (by decide)) hT),
    (fun a u c hT hr hs hl hd K hK=>by
     obtain⟨l0,-,-,-,-,-,-,-,-,-,-,-,-⟩:=hl;have s0:=gd l0;clear hd;refine step_plain rfl ?_;go_simp;exact hK _ _ (s_put hs (by decide)) hT),
    (fun a u c hT hr hs hl hd K hK=>by
     obtain⟨l0,-,-,-,-,-,-,-,-,-,-,-,-⟩:=hl;have s0:=gd l0;clear hd;refine step_plain rfl ?_;go_simp;exact hK _ _ (s_put hs (by decide)) hT),
    (fun a u c hT hr hs hl hd K hK=>by
     obtain⟨l0,-,-,-,-,-,-,-,-,-,-,-,-⟩:=hl;have s0:=gd l0;clear hd;refine step_plain rfl ?_;go_simp;exact hK _ _ (s_put hs (by decide)) hT),
    (fun a u c hT hr hs hl hd K hK=>by
     obtain⟨-,-,-,l5,-,-,-,-,-,-,-,-,-⟩:=hl;have s5:=gd l5;clear hd;refine step_plain rfl ?_;go_simp;exact hK _ _ (s_put hs (by decide)) hT),
    (fun a u c hT hr hs hl hd K hK=>by
     obtain⟨-,-,-,-,l6,-,-,-,-,-,-,-,-⟩:=hl;have s6:=gd l6;clear hd;refine step_plain rfl ?_;go_simp;exact hK _ _ (s_put hs (by decide)) hT),
    (fun a u c hT hr hs hl hd K hK=>by
     obtain⟨-,-,-,-,-,l7,-,-,-,-,-,-,-⟩:=hl;have s7:=gd l7;clear hd;refine step_plain rfl ?_;go_simp;exact hK _ _ (s_put hs (by decide)) hT),
    (fun a u c hT hr hs hl hd K hK=>by
     obtain⟨-,-,-,-,-,-,l8,-,-,-,-,-,-⟩:=hl;have s8:=gd l8;clear hd;refine step_plain rfl ?_;go_simp;exact hK _ _ (s_put hs (by decide)) hT),
    (fun a u c hT hr hs hl hd K hK=>by
     obtain⟨-,-,-,-,-,-,-,l9,-,-,-,-,-⟩:=hl;have s9:=gd l9;clear hd;refine step_plain rfl ?_;go_simp;exact hK _ _ (s_put hs (by decide)) hT),
    (fun a u c hT hr hs hl hd K hK=>by
     obtain⟨-,-,-,-,-,-,-,-,l10,-,-,-,-⟩:=hl;have s10:=gd l10;clear hd;refine step_plain rfl ?_;go_simp;exact hK _ _ (s_put hs (by decide)) hT),
    (fun a u c hT hr hs hl hd K hK=>by
     obtain⟨-,-,-,-,-,-,-,-,-,l11,-,-,-⟩:=hl;have s11:=gd l11;clear hd;refine step_plain rfl ?_;go_simp;exact hK _ _ (s_put hs (by decide)) hT),
    (fun a u c hT hr hs hl hd K hK=>by
     obtain⟨-,-,-,-,-,-,-,-,-,-,l12,-,-⟩:=hl;have s12:=gd l12;clear hd;refine step_plain rfl ?_;go_simp;exact hK _ _ (s_put hs (by decide)) hT),
    (fun a u c hT hr hs hl hd K hK=>by
     have s243:=gd (sdep_get hd 0 (by kernel_rfl) rfl);clear hd;refine step_plain rfl ?_;go_simp;exact hK _ _ (s_put hs (by decide)) hT),
    (fun a u c hT hr hs hl hd K hK=>by
     have s259:=gd (sdep_get hd 16 (by kernel_rfl) rfl);clear hd;refine step_plain rfl ?_;go_simp;exact hK _ _ (s_put hs (by decide)) hT),
    (fun a u c hT hr hs hl hd K hK=>by
     have s260:=gd (sdep_get hd 17 (by kernel_rfl) rfl);clear hd;refine step_plain rfl ?_;go_simp;exact hK _ _ (s_put hs (by decide)) hT),
    (fun a u c hT hr hs hl hd K hK=>by
     have s251:=gd (sdep_get hd 8 (by kernel_rfl) rfl);have s261:=gd (sdep_get hd 18 (by kernel_rfl) rfl);clear hd;obtain rfl:=hr 0 rfl;refine step_plain rfl ?_;have hfr:=hT.2.free 0;have hold:=(hT.2.cell 0).trans (Array.getElem?_eq_getElem (show 0<_ by rw[putH_size,dig_size,hx];omega));go_simp;exact hK undef _ trivial ⟨gb_set hT.1 0 (.int .u32 (S.nth 0)),hT.2.set_ 0 (.int .u32 (S.nth 0))⟩),
    (fun a u c hT hr hs hl hd K hK=>by
     have s244:=gd (sdep_get hd 1 (by kernel_rfl) rfl);clear hd;refine step_plain rfl ?_;go_simp;exact hK _ _ (s_put hs (by decide)) hT),
    (fun a u c hT hr hs hl hd K hK=>by
     have s262:=gd (sdep_get hd 20 (by kernel_rfl) rfl);clear hd;refine step_plain rfl ?_;go_simp;exact hK _ _ (s_put hs (by decide)) hT),
    (fun a u c hT hr hs hl hd K hK=>by
     have s263:=gd (sdep_get hd 21 (by kernel_rfl) rfl);clear hd;refine step_plain rfl ?_;go_simp;exact hK _ _ (s_put hs (by decide)) hT),
    (fun a u c hT hr hs hl hd K hK=>by
     have s252:=gd (sdep_get hd 9 (by kernel_rfl) rfl);have s264:=gd (sdep_get hd 22 (by kernel_rfl) rfl);clear hd;obtain rfl:=hr 1 rfl;refine step_plain rfl ?_;have hfr:=hT.2.free 1;have hold:=(hT.2.cell 1).trans (Array.getElem?_eq_getElem (show 1<_ by rw[putH_size,dig_size,hx];omega));go_simp;exact hK undef _ trivial ⟨gb_set hT.1 1 (.int .u32 (S.nth 1)),hT.2.set_ 1 (.int .u32 (S.nth 1))⟩),
    (fun a u c hT hr hs hl hd K hK=>by
     have s245:=gd (sdep_get hd 2 (by kernel_rfl) rfl);clear hd;refine step_plain rfl ?_;go_simp;exact hK _ _ (s_put hs (by decide)) hT),
    (fun a u c hT hr hs hl hd K hK=>by
     have s265:=gd (sdep_get hd 24 (by kernel_rfl) rfl);clear hd;refine step_plain rfl ?_;go_simp;exact hK _ _ (s_put hs (by decide)) hT),
    (fun a u c hT hr hs hl hd K hK=>by
     have s266:=gd (sdep_get hd 25 (by kernel_rfl) rfl);clear hd;refine step_plain rfl ?_;go_simp;exact hK _ _ (s_put hs (by decide)) hT),
    (fun a u c hT hr hs hl hd K hK=>by
     have s253:=gd (sdep_get hd 10 (by kernel_rfl) rfl);have s267:=gd (sdep_get hd 26 (by kernel_rfl) rfl);clear hd;obtain rfl:=hr 2 rfl;refine step_plain rfl ?_;have hfr:=hT.2.free 2;have hold:=(hT.2.cell 2).trans (Array.getElem?_eq_getElem (show 2<_ by rw[putH_size,dig_size,hx];omega));go_simp;exact hK undef _ trivial ⟨gb_set hT.1 2 (.int .u32 (S.nth 2)),hT.2.set_ 2 (.int .u32 (S.nth 2))⟩),
    (fun a u c hT hr hs hl hd K hK=>by
     have s246:=gd (sdep_get hd 3 (by kernel_rfl) rfl);clear hd;refine step_plain rfl ?_;go_simp;exact hK _ _ (s_put hs (by decide)) hT),
    (fun a u c hT hr hs hl hd K hK=>by
     have s268:=gd (sdep_get hd 28 (by kernel_rfl) rfl);clear hd;refine step_plain rfl ?_;go_simp;exact hK _ _ (s_put hs (by decide)) hT),
    (fun a u c hT hr hs hl hd K hK=>by
     have s269:=gd (sdep_get hd 29 (by kernel_rfl) rfl);clear hd;refine step_plain rfl ?_;go_simp;exact hK _ _ (s_put hs (by decide)) hT),
    (fun a u c hT hr hs hl hd K hK=>by
     have s254:=gd (sdep_get hd 11 (by kernel_rfl) rfl);have s270:=gd (sdep_get hd 30 (by kernel_rfl) rfl);clear hd;obtain rfl:=hr 3 rfl;refine step_plain rfl ?_;have hfr:=hT.2.free 3;have hold:=(hT.2.cell 3).trans (Array.getElem?_eq_getElem (show 3<_ by rw[putH_size,dig_size,hx];omega));go_simp;exact hK undef _ trivial ⟨gb_set hT.1 3 (.int .u32 (S.nth 3)),hT.2.set_ 3 (.int .u32 (S.nth 3))⟩),
    (fun a u c hT hr hs hl hd K hK=>by
     have s247:=gd (sdep_get hd 4 (by kernel_rfl) rfl);clear hd;refine step_plain rfl ?_;go_simp;exact hK _ _ (s_put hs (by decide)) hT),
    (fun a u c hT hr hs hl hd K hK=>by
     have s271:=gd (sdep_get hd 32 (by kernel_rfl) rfl);clear hd;refine step_plain rfl ?_;go_simp;exact hK _ _ (s_put hs (by decide)) hT),
    (fun a u c hT hr hs hl hd K hK=>by
     have s272:=gd (sdep_get hd 33 (by kernel_rfl) rfl);clear hd;refine step_plain rfl ?_;go_simp;exact hK _ _ (s_put hs (by decide)) hT),
    (fun a u c hT hr hs hl hd K hK=>by
     have s255:=gd (sdep_get hd 12 (by kernel_rfl) rfl);have s273:=gd (sdep_get hd 34 (by kernel_rfl) rfl);clear hd;obtain rfl:=hr 4 rfl;refine step_plain rfl ?_;have hfr:=hT.2.free 4;have hold:=(hT.2.cell 4).trans (Array.getElem?_eq_getElem (show 4<_ by rw[putH_size,dig_size,hx];omega));go_simp;exact hK undef _ trivial ⟨gb_set hT.1 4 (.int .u32 (S.nth 4)),hT.2.set_ 4 (.int .u32 (S.nth 4))⟩),
    (fun a u c hT hr hs hl hd K hK=>by
     have s248:=gd (sdep_get hd 5 (by kernel_rfl) rfl);clear hd;refine step_plain rfl ?_;go_simp;exact hK _ _ (s_put hs (by decide)) hT),
    (fun a u c hT hr hs hl hd K hK=>by
     have s274:=gd (sdep_get hd 36 (by kernel_rfl) rfl);clear hd;refine step_plain rfl ?_;go_simp;exact hK _ _ (s_put hs (by decide)) hT),
    (fun a u c hT hr hs hl hd K hK=>by
     have s275:=gd (sdep_get hd 37 (by kernel_rfl) rfl);clear hd;refine step_plain rfl ?_;go_simp;exact hK _ _ (s_put hs (by decide)) hT),
    (fun a u c hT hr hs hl hd K hK=>by
     have s256:=gd (sdep_get hd 13 (by kernel_rfl) rfl);have s276:=gd (sdep_get hd 38 (by kernel_rfl) rfl);clear hd;obtain rfl:=hr 5 rfl;refine step_plain rfl ?_;have hfr:=hT.2.free 5;have hold:=(hT.2.cell 5).trans (Array.getElem?_eq_getElem (show 5<_ by rw[putH_size,dig_size,hx];omega));go_simp;exact hK undef _ trivial ⟨gb_set hT.1 5 (.int .u32 (S.nth 5)),hT.2.set_ 5 (.int .u32 (S.nth 5))⟩),
    (fun a u c hT hr hs hl hd K hK=>by
     have s249:=gd (sdep_get hd 6 (by kernel_rfl) rfl);clear hd;refine step_plain rfl ?_;go_simp;exact hK _ _ (s_put hs (by decide)) hT),
    (fun a u c hT hr hs hl hd K hK=>by
     have s277:=gd (sdep_get hd 40 (by kernel_rfl) rfl);clear hd;refine step_plain rfl ?_;go_simp;exact hK _ _ (s_put hs (by decide)) hT),
    (fun a u c hT hr hs hl hd K hK=>by
     have s278:=gd (sdep_get hd 41 (by kernel_rfl) rfl);clear hd;refine step_plain rfl ?_;go_simp;exact hK _ _ (s_put hs (by decide)) hT),
    (fun a u c hT hr hs hl hd K hK=>by
     have s257:=gd (sdep_get hd 14 (by kernel_rfl) rfl);have s279:=gd (sdep_get hd 42 (by kernel_rfl) rfl);clear hd;obtain rfl:=hr 6 rfl;refine step_plain rfl ?_;have hfr:=hT.2.free 6;have hold:=(hT.2.cell 6).trans (Array.getElem?_eq_getElem (show 6<_ by rw[putH_size,dig_size,hx];omega));go_simp;exact hK undef _ trivial ⟨gb_set hT.1 6 (.int .u32 (S.nth 6)),hT.2.set_ 6 (.int .u32 (S.nth 6))⟩),
    (fun a u c hT hr hs hl hd K hK=>by
     have s250:=gd (sdep_get hd 7 (by kernel_rfl) rfl);clear hd;refine step_plain rfl ?_;go_simp;exact hK _ _ (s_put hs (by decide)) hT),
    (fun a u c hT hr hs hl hd K hK=>by
     have s280:=gd (sdep_get hd 44 (by kernel_rfl) rfl);clear hd;refine step_plain rfl ?_;go_simp;exact hK _ _ (s_put hs (by decide)) hT),
    (fun a u c hT hr hs hl hd K hK=>by
     have s281:=gd (sdep_get hd 45 (by kernel_rfl) rfl);clear hd;refine step_plain rfl ?_;go_simp;exact hK _ _ (s_put hs (by decide)) hT),
    (fun a u c hT hr hs hl hd K hK=>by
     have s258:=gd (sdep_get hd 15 (by kernel_rfl) rfl);have s282:=gd (sdep_get hd 46 (by kernel_rfl) rfl);clear hd;obtain rfl:=hr 7 rfl;refine step_plain rfl ?_;have hfr:=hT.2.free 7;have hold:=(hT.2.cell 7).trans (Array.getElem?_eq_getElem (show 7<_ by rw[putH_size,dig_size,hx];omega));go_simp;exact hK undef _ trivial ⟨gb_set hT.1 7 (.int .u32 (S.nth 7)),hT.2.set_ 7 (.int .u32 (S.nth 7))⟩),
    trivial⟩ ?_
  clear hs hd s0 s1 s4 s5 s6 s7 s8 s9 s10 s11 s12 s71;intro a w hT hs hd hl hh;obtain⟨-,-,-,-,-,-,-,-,-,-,-,-,-⟩:=hl;clear hh;rw[show([19,23,27,31,35,39,43,47]:List Nat).length=8 from rfl,putH_dig,hSS.out]at hT;exact end_none rfl hd ⟨rfl,hT.1,hT.2⟩
 ·obtain rfl:P=some ⟨b,o+64*q,none⟩:=ho.resolve_left hn0;refine bg_block a wr hs hd s0 s1 s4 s5 s6 s7 s8 s9 s10 s11 s12 (by omega) (by omega) hc' hG (hS.zero (64*q)) hKt hB0 ?_ hbB hl8 ?_
  ·have:=hP.sub (q:=64*q) (m:=64) (by omega)
   rwa [Nat.zero_add]at this
  ·have hm:(match a.tmps.getD 1 undef with| .slice _ n _=>n|_=>0)=n':=by rw[s1]
   intro a' w' P' hP' h1 h2 h3 h4 h5;have hm':(match a'.tmps.getD 1 undef with| .slice _ n _=>n|_=>0)=n'-64:=by rw[h3.2.1]
   refine⟨⟨q+1,n'-64,c'-64,P',shaBlk l (64*q) S,by omega,?_,by omega,?_,h1,h2,h3,h4,h5.zero 0⟩,?_⟩
   ·exact hP'.imp id (fun e=>by rw[e,Nat.mul_succ,Nat.add_assoc])
   ·unfold Is;rw[shaBlks_snoc,Nat.zero_add,← hSS.out]
   ·show(match a'.tmps.getD 1 undef with| .slice _ n _=>n|_=>0)<(match a.tmps.getD 1 undef with| .slice _ n _=>n|_=>0)
    rw[hm,hm'];omega
theorem be4_congr{a b:List Int}{i j:Nat}(h:∀k,k<4→a.getD (i+k) 0=b.getD (j+k) 0):be4 a i=be4 b j:=by
 unfold be4;have h0:=h 0 (by omega);have h1:=h 1 (by omega);have h2:=h 2 (by omega);have h3:=h 3 (by omega);rw[Nat.add_zero,Nat.add_zero]at h0;rw[h0,h1,h2,h3]
theorem wd_congr{a b:List Int}{p q:Nat}(h:∀i,i<64→a.getD (p+i) 0=b.getD (q+i) 0)(i:Nat):wd a p i=wd b q i:=by
 induction i using Nat.strongRecOn with
 |_ i ih=>
  by_cases hi:i<16
  ·rw[wd_lo _ _ _ hi,wd_lo _ _ _ hi];refine be4_congr fun k hk=>?_
   have:=h (4*i+k) (by omega)
   rwa [← Nat.add_assoc,← Nat.add_assoc]at this
  ·rw[wd_hi a p i (by omega),wd_hi b q i (by omega),ih (i-16) (by omega),ih (i-15) (by omega),ih (i-7) (by omega),ih (i-2) (by omega)]
theorem shaRds_congr{a b:List Int}{p q:Nat}(h:∀i,i<64→a.getD (p+i) 0=b.getD (q+i) 0)(s:ShaSt)(n:Nat):shaRds a p s n=shaRds b q s n:=by
 induction n with
 |zero=>rfl
 |succ n ih=>rw[shaRds,shaRds,ih,wd_congr h]
theorem shaBlks_congr{a b:List Int}{p q:Nat}(n:Nat)(s:ShaSt)(h:∀i,i<64*n→a.getD (p+i) 0=b.getD (q+i) 0):shaBlks a p n s=shaBlks b q n s:=by
 induction n generalizing p q s with
 |zero=>rfl
 |succ n ih=>
  have e:shaBlk a p s=shaBlk b q s:=by
   unfold shaBlk;rw[shaRds_congr (fun i hi=>h i (by omega))]
  rw[shaBlks,shaBlks,e];refine ih _ fun i hi=>?_
  have:=h (64+i) (by omega)
  rwa [← Nat.add_assoc,← Nat.add_assoc]at this
theorem shaBlks_add(b:List Int)(p n k:Nat)(s:ShaSt):shaBlks b p (n+k) s=shaBlks b (p+64*n) k (shaBlks b p n s):=by
 induction n generalizing p s with
 |zero=>simp[shaBlks]
 |succ n ih=>
  rw[show n+1+k=(n+k)+1 by omega,shaBlks,ih,shaBlks]
  congr 1
  omega
theorem Bytes.append{a b:List Int}(h:Bytes a)(k:Bytes b):Bytes (a++b):=fun x hx=>(List.mem_append.1 hx).elim (h x) (k x)
theorem Bytes.take{a:List Int}(h:Bytes a)(n:Nat):Bytes (a.take n):=fun x hx=>h x (List.mem_of_mem_take hx)
theorem Bytes.drop{a:List Int}(h:Bytes a)(n:Nat):Bytes (a.drop n):=fun x hx=>h x (List.mem_of_mem_drop hx)
theorem Bytes.nil:Bytes []:=fun x hx=>by cases hx
theorem getD_app(a b:List Int)(i:Nat):(a++b).getD (a.length+i) 0=b.getD i 0:=by
 simp[List.getD_eq_getElem?_getD,List.getElem?_append_right]
theorem getD_app_lo{a:List Int}(b:List Int){i:Nat}(h:i<a.length):(a++b).getD i 0=a.getD i 0:=by
 simp[List.getD_eq_getElem?_getD,List.getElem?_append_left h]
theorem getD_take'(a:List Int)(n i:Nat)(h:i<n):(a.take n).getD i 0=a.getD i 0:=by
 simp[List.getD_eq_getElem?_getD,List.getElem?_take,h]
theorem getD_drop'(a:List Int)(n i:Nat):(a.drop n).getD i 0=a.getD (n+i) 0:=by
 simp[List.getD_eq_getElem?_getD]
theorem dig_nx(s:ShaSt)(x:Array Value)(nx ln nx':Int)(hx:x.size=64):(dig s x nx ln).setIfInBounds 72 (.int .i64 nx')=dig s x nx' ln:=by
 apply Array.ext';have hl:x.toList.length=64:=by simpa using hx
 simp[dig,List.set_append,hl]
theorem dig_ln(s:ShaSt)(x:Array Value)(nx ln ln':Int)(hx:x.size=64):(dig s x nx ln).setIfInBounds 73 (.int .u64 ln')=dig s x nx ln':=by
 apply Array.ext';have hl:x.toList.length=64:=by simpa using hx
 simp[dig,List.set_append,hl]
theorem dig_get_nx(s:ShaSt)(x:Array Value)(nx ln:Int)(hx:x.size=64):(dig s x nx ln)[72]?=some (.int .i64 nx):=by
 have hl:x.toList.length=64:=by simpa using hx
 simp[dig,List.getElem?_append,hl]
theorem dig_get_ln(s:ShaSt)(x:Array Value)(nx ln:Int)(hx:x.size=64):(dig s x nx ln)[73]?=some (.int .u64 ln):=by
 have hl:x.toList.length=64:=by simpa using hx
 simp[dig,List.getElem?_append,hl]
theorem dig_get_224(s:ShaSt)(x:Array Value)(nx ln:Int)(hx:x.size=64):(dig s x nx ln)[74]?=some (.bool false):=by
 have hl:x.toList.length=64:=by simpa using hx
 simp[dig,List.getElem?_append,hl]
theorem dig_get_x(s:ShaSt)(x:Array Value)(nx ln:Int)(j:Nat)(hj:j<x.size):(dig s x nx ln)[8+j]?=x[j]?:=by
 have hl:j<x.toList.length:=by simpa using hj
 rw[show 8+j=j+8 by omega];simp[dig,List.getElem?_append,hl,hj]
theorem Bs.at_{w:World}{A:Option Addr}{l:List Int}(h:Bs w A l)(hl:0<l.length):∃b o,A=some ⟨b,o,none⟩∧b<w.heap.size∧∀i,i<l.length→w.cell? ⟨b,o+i,none⟩=some (.int .u8 (l.getD i 0)):=by
 obtain⟨b,o,rfl,hb,_⟩:=h 0 hl;refine⟨b,o,rfl,hb,fun i hi=>?_⟩;obtain⟨b',o',e,_,hc⟩:=h i hi;injection e with e;injection e with e1 e2;subst e1 e2;exact hc
def putX(x:Array Value)(off:Nat)(l:List Int):Array Value:=(x.toList.take off++l.map (Value.int .u8)++x.toList.drop (off+l.length)).toArray
theorem putX_size(x:Array Value)(off:Nat)(l:List Int)(h:off+l.length≤x.size):(putX x off l).size=x.size:=by
 unfold putX;simp;omega
theorem putX_in(x:Array Value)(off:Nat)(l:List Int)(h:off+l.length≤x.size)(j:Nat)(hj:j<l.length):(putX x off l)[off+j]?=some (.int .u8 (l.getD j 0)):=by
 unfold putX;have h1:(x.toList.take off).length=off:=by simp;omega
 simp only[List.getElem?_toArray,List.append_assoc];rw[List.getElem?_append_right (by omega),h1,Nat.add_sub_cancel_left,List.getElem?_append_left (by simpa using hj),List.getElem?_map,List.getElem?_eq_getElem hj];simp[List.getD_eq_getElem?_getD,List.getElem?_eq_getElem hj]
theorem putX_lo(x:Array Value)(off:Nat)(l:List Int)(h:off≤x.size)(j:Nat)(hj:j<off):(putX x off l)[j]?=x[j]?:=by
 unfold putX;simp only[List.getElem?_toArray,List.append_assoc];rw[List.getElem?_append_left (by simp;omega),List.getElem?_take,if_pos hj];simp
theorem putX_nil(x:Array Value)(off:Nat):putX x off []=x:=by unfold putX;simp
theorem dig_copy(s:ShaSt)(x:Array Value)(nx ln:Int)(off:Nat)(l:List Int)(h:off+l.length≤x.size):
  ((dig s x nx ln).toList.take (8+off)++l.map (Value.int .u8)++(dig s x nx ln).toList.drop (8+off+(l.map (Value.int .u8)).length)).toArray=dig s (putX x off l) nx ln:=by
 apply Array.ext';have hl:x.toList.length=x.size:=by simp
 have e1:(dig s x nx ln).toList=[.int .u32 s.a,.int .u32 s.b,.int .u32 s.c,.int .u32 s.d,.int .u32 s.e,.int .u32 s.f,.int .u32 s.g,.int .u32 s.h]++(x.toList++[.int .i64 nx,.int .u64 ln,.bool false]):=by simp[dig]
 have e2:(dig s (putX x off l) nx ln).toList=[.int .u32 s.a,.int .u32 s.b,.int .u32 s.c,.int .u32 s.d,.int .u32 s.e,.int .u32 s.f,.int .u32 s.g,.int .u32 s.h]++((x.toList.take off++l.map (Value.int .u8)++x.toList.drop (off+l.length))++[.int .i64 nx,.int .u64 ln,.bool false]):=by simp[dig,putX]
 rw[e1,e2,List.length_map];rw[show 8+off+l.length=8+(off+l.length)by omega];rw[List.take_append,List.drop_append];simp only[List.length_cons,List.length_nil,Nat.zero_add];rw[List.take_of_length_le (by simp),List.drop_of_length_le (by simp)];simp only[Nat.add_sub_cancel_left,List.nil_append];rw[List.take_append_of_le_length (by omega),List.drop_append_of_le_length (by omega)];simp[List.append_assoc]
theorem u8_size:(Tryz.prog.info? 5).map (·.size)=some 1:=by kernel_rfl
theorem run_copy_dig(w:World)(ty:TypeId){g off dLen dCap:Nat}{s:ShaSt}{x:Array Value}{nx ln:Int}{A:Option Addr}{c:Nat}{l:List Int}(hg:Blk w g 188 (dig s x nx ln))(hx:x.size=64)(hoff:off+dLen=64)(hl:Bs w A l):
  ∃w',(Builtin.copy_ #[32,32] ty #[.slice (some ⟨g,8+off,none⟩) dLen dCap,.slice A l.length c]).run Tryz.prog w=.ok (.int .i64 ((min l.length dLen:Nat):Int)) w'∧w.grownBy w' (some g)∧Blk w' g 188 (dig s (putX x off (l.take dLen)) nx ln):=by
 by_cases h0:min l.length dLen=0
 ·have hr:=run_copy_none (P:=Tryz.prog) w 32 32 ty 5 (some ⟨g,8+off,none⟩) A dLen dCap l.length c Tryz.underlying32 u8_size h0;have he:l.take dLen=[]:=by
   rcases Nat.eq_zero_or_pos dLen with h|h
   ·rw[h,List.take_zero]
   ·have:l.length=0:=by omega
    rw[List.eq_nil_of_length_eq_zero this,List.take_nil]
  refine⟨w,?_,gb_refl _ _,by rw[he,putX_nil];exact hg⟩;rw[hr,h0];rfl
 ·have hpos:0<l.length:=by omega
  obtain⟨b,o,rfl,hb,hc⟩:=hl.at_ hpos;have hlen:((l.take dLen).map (Value.int .u8)).length=Nat.min l.length dLen:=by
   rw[List.length_map,List.length_take];exact Nat.min_comm ..
  have hr:=run_copy_row (P:=Tryz.prog) w 32 32 ty 5 g (8+off) dLen dCap ⟨b,o,none⟩ l.length c _ 188 ((l.take dLen).map (Value.int .u8)) Tryz.underlying32 u8_size hg hlen
   (by
    intro j v hv;rw[List.getElem?_map,List.getElem?_take]at hv;split at hv
    ·rename_i hj
     cases hlj:l[j]? with
     |none=>rw[hlj]at hv;cases hv
     |some y=>
      rw[hlj]at hv;have hjl:j<l.length:=(List.getElem?_eq_some_iff.1 hlj).1;have hadd:(⟨b,o,none⟩:Addr).add j=⟨b,o+j,none⟩:=by unfold Addr.add;split <;> simp_all
      rw[hadd,hc j hjl,List.getD_eq_getElem?_getD,hlj];simpa using hv
    ·cases hv)
   (by rw[hlen,dig_size,hx];have:=Nat.min_le_right l.length dLen;show 8+off+min l.length dLen≤_;omega) (u8_cells _)
  have hle:(l.take dLen).length=min l.length dLen:=by rw[List.length_take];omega
  rw[dig_copy s x nx ln off (l.take dLen) (by rw[hle];omega)]at hr;refine⟨w.setRow g (dig s (putX x off (l.take dLen)) nx ln),?_,⟨rfl,rfl,rfl,by simp,fun k hk hn=>setRow_other _ _ _ _ (fun e=>hn (by rw[e]))⟩,hg.setRow _⟩;rw[hr,hlen];rfl
theorem wp_copy_dig{o:Oper}{a:Act}{w:World}{K:Act→World→Prop}{Q:Exit→Act→World→Prop}(d q:Operand)(ho:o.op=.call {callee:=.builtin .copy,args:=#[d,q],argTypes:=#[32,32]})
  {g off dLen dCap:Nat}{s:ShaSt}{x:Array Value}{nx ln:Int}{A:Option Addr}{c:Nat}{l:List Int}(hdv:a.eval d=.slice (some ⟨g,8+off,none⟩) dLen dCap)(hqv:a.eval q=.slice A l.length c)(hg:Blk w g 188 (dig s x nx ln))(hx:x.size=64)(hoff:off+dLen=64)(hl:Bs w A l)
  (h:∀w',w.grownBy w' (some g)→Blk w' g 188 (dig s (putX x off (l.take dLen)) nx ln)→K (a.put o.dst (.int .i64 ((min l.length dLen:Nat):Int))) w'):o.wp Tryz.prog a w K Q:=by
 obtain⟨w',hr,h1,h2⟩:=run_copy_dig w o.type (dCap:=dCap) (c:=c) hg hx hoff hl;unfold Oper.wp execOp;simp only[ho,resolve,invoke,builtin,Sem.run_bind,Sem.run_pure,Result.andThen_ok,List.map_toArray,List.map_cons,List.map_nil,hdv,hqv,hr];exact h w' h1 h2
theorem Bs.after{w w':World}{A:Option Addr}{l:List Int}(h:Bs w A l)(hb:Below w.heap.size w w'):Bs w' A l:=h.below hb
theorem bs_of{w:World}{b o n:Nat}{q:List Int}(h:BytesAt w b o q 0 n)(hq:q.length=n):Bs w (some ⟨b,o,none⟩) q:=fun i hi=>by
 have:=h i (by omega);rw[Nat.zero_add]at this;exact⟨b,o,rfl,World.block_lt_of_cell? w _ this,this⟩
def One(x:Array Value):Prop:=∀v∈x.toList,v.oneCell'=true
theorem One.putX{x:Array Value}(h:One x)(off:Nat)(l:List Int):One (putX x off l):=by
 intro v hv;unfold Go.Proofs.YtjhnnjhaklohhaaGreatDoor.putX at hv;simp only[List.mem_append,List.mem_map]at hv;rcases hv with (hv|⟨a,_,rfl⟩)|hv
 ·exact h v (List.mem_of_mem_take hv)
 ·rfl
 ·exact h v (List.mem_of_mem_drop hv)
def Dst(w:World)(g:Nat)(m:List Int):Prop:=
 ∃x:Array Value,(x.size=64∧One x)∧Blk w g 188 (dig (shaBlks m 0 (m.length / 64) sha0) x ((m.length % 64:Nat):Int) ((m.length:Nat):Int))∧∀j,j<m.length % 64→x[j]?=some (.int .u8 (m.getD (64*(m.length / 64)+j) 0))
theorem Dst.after{w w':World}{g:Nat}{m:List Int}(h:Dst w g m)(hb:Below w.heap.size w w'):Dst w' g m:=by
 obtain⟨x,h1,h2,h3⟩:=h;exact⟨x,h1,h2.after hb,h3⟩
theorem Dst.lt{w:World}{g:Nat}{m:List Int}(h:Dst w g m):g<w.heap.size:=by
 obtain⟨x,h1,h2,h3⟩:=h;exact h2.lt
def MidD(w:World)(g:Nat)(M:List Int)(n:Nat):Prop:=
 (n=0∧Dst w g M)∨∃(x:Array Value) (k:Nat),(x.size=64∧One x)∧64*k+n=M.length∧Blk w g 188 (dig (shaBlks M 0 k sha0) x 0 ((M.length:Nat):Int))
theorem MidD.after{w w':World}{g n:Nat}{M:List Int}(h:MidD w g M n)(hb:Below w.heap.size w w'):MidD w' g M n:=by
 rcases h with⟨h1,h2⟩|⟨x,k,h1,h2,h3⟩
 ·exact .inl ⟨h1,h2.after hb⟩
 ·exact .inr ⟨x,k,h1,h2,h3.after hb⟩
def piece(M:List Int)(k j:Nat):List Int:=(M.drop (64*k)).take (64*j)
theorem piece_length(M:List Int)(k j:Nat)(h:64*k+64*j≤M.length):(piece M k j).length=64*j:=by
 unfold piece;rw[List.length_take,List.length_drop];omega
theorem piece_get(M:List Int)(k j i:Nat)(h:i<64*j):(piece M k j).getD i 0=M.getD (64*k+i) 0:=by
 unfold piece;rw[getD_take' _ _ _ h,getD_drop']
theorem piece_bytes{M:List Int}(h:Bytes M)(k j:Nat):Bytes (piece M k j):=(h.drop _).take _
theorem shaBlks_piece(M:List Int)(k j:Nat):shaBlks (piece M k j) 0 j (shaBlks M 0 k sha0)=shaBlks M 0 (k+j) sha0:=by
 rw[shaBlks_add,Nat.zero_add];refine shaBlks_congr _ _ fun i hi=>?_
 rw[Nat.zero_add,piece_get _ _ _ _ hi]
theorem shaBlks_front{m M:List Int}{p:List Int}(h:Is M (m++p)):shaBlks m 0 (m.length / 64) sha0=shaBlks M 0 (m.length / 64) sha0:=by
 refine shaBlks_congr _ _ fun i hi=>?_
 rw[h.out,Nat.zero_add,getD_app_lo p (by omega)]
theorem andNot63(n:Nat)(h:n≤1000000000000):bits .andNot .i64 (n:Int) 63=((n-n % 64:Nat):Int):=by
 show IntKind.i64.wrap (((BitVec.ofInt 64 (n:Int) &&& ~~~BitVec.ofInt 64 ((63:Nat):Int)).toNat:Nat):Int)=_
 rw[BitVec.toNat_and,BitVec.toNat_not,ofInt_u64 n (by omega),ofInt_u64 63 (by omega)];have e:2 ^ 64-1-63=18446744073709551552:=by decide
 rw[e,nat_hi64_6,Nat.mod_eq_of_lt (by omega)];rw[IntWalk.i64_in _ (by omega)];omega
def partAt:List Bool→Code→Code
 | [],c=>c
 |false::l,.seq x _=>partAt l x
 |true::l,.seq _ y=>partAt l y
 |_,c=>c
end Go.Proofs.YtjhnnjhaklohhaaGreatDoor
