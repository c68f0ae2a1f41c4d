/- Digests of the package: Write, whole. (Printed by gen_dig.py.) Padding and the sum's bytes: plain facts for checkSum. checkSum. (Printed by gen_sum.py.) Operations whole, for walks with the frame as a letter: aggregates loaded and stored, bytes put behind. And what a function hands back that made bytes (weaker than OutB: of any block). The sum of bytes: New, Sum, the package's own. (Printed by gen_sumb.py.) The tree's hashes: a leaf, an inner node, over a digest behind an interface. (Printed by gen_merk.py.) -/
import Derived.Test.YtjhnnjhaklohhaaGreatDoorM3
import Derived.Test.YtjhnnjhaklohhaaGreatDoorM1
set_option linter.unusedVariables false
set_option linter.unusedSimpArgs false
set_option maxHeartbeats 4000000
set_option maxRecDepth 100000
namespace Go.Proofs.YtjhnnjhaklohhaaGreatDoor
open Go.RowKit
theorem wr_A{Q:Exit→Act→World→Prop}{g b o c:Nat}{m p M:List Int}{v4 v5:Value}{w0:World}(a:Act)(w:World)(hs:SzIs a 95)(hd:DfNil a)
  (s0:a.tmps.getD 0 undef=.pointer (some ⟨g,0,none⟩))(s1:a.tmps.getD 1 undef=.slice (some ⟨b,o,none⟩) p.length c)(s4:a.tmps.getD 4 undef=v4)(s5:a.tmps.getD 5 undef=v5)
  (hM:Is M (m++p))(hMl:m.length+p.length=M.length)(hlen:M.length≤1000000000000)(hM8:Bytes M)(hG:GB w0 w g)(hP:BytesAt w0 b o p 0 p.length)(hbg:0<p.length→b≠g)(hKt:KTab w0 1)(hg0:g≠1)(hm8:Bytes m)(hcap:p.length≤c){x:Array Value}{q r:Nat}(hmq:64*q+r=m.length)(hr:r<64)(hx:x.size=64)(hx1:One x)(hg:Blk w g 188 (dig (shaBlks m 0 q sha0) x ((r:Nat):Int) ((M.length:Nat):Int)))(hxb:∀j,j<r→x[j]?=some (.int .u8 (m.getD (64*q+j) 0)))
  (hQ:∀(a:Act) (w:World) (P:Option Addr) (n c:Nat),(n=0∨P=some ⟨b,o+(p.length-n),none⟩)→n≤p.length→n≤c→SzIs a 95→DfNil a→LiveAll [(0,.pointer (some ⟨g,0,none⟩)),(1,.slice P n c),(4,v4),(5,v5)] a→GB w0 w g→MidD w g M n→Q .normal a w):wrA.wp Tryz.prog Q a w:=by
 conv=>arg 2;whnf
 have hfr:shaBlks m 0 q sha0=shaBlks M 0 q sha0:=by
  have h:=shaBlks_front hM
  rwa [show m.length / 64=q by omega]at h
 by_cases h0:r=0
 ·subst h0;refine wp_seq ?_;have c2:=(hg.cell 72).trans (dig_get_nx _ _ _ _ hx);refine fl2 (F:=[(0,_),(1,_),(4,_),(5,_)]) [.eq 19 _,.eq 20 _,.eq 21 _,.eq 22 _] 4 hs hd ⟨s0,s1,s4,s5,trivial⟩
   ⟨sP bq,
    sP bq,
    sP bq,
    sP bq,
    trivial⟩ ?_
  clear hs hd s0 s1 s4 s5;intro a w hb hs hd zl hh;replace zl:=lH hh 3 zl;clear hh;replace hG:=hG.after hb;replace hg:=hg.after hb;replace c2:=cell_up hb c2;clear hb;refine wn 1 ?_;clear hs hd zl;intro a hs hd zl;clear c2;refine wp_cond_false (vL zl 0) ?_;refine wp_skip ?_;obtain⟨s23,-,s0,s1,s4,s5,-⟩:=zl;refine hQ a w _ p.length c (.inr (by rw[Nat.sub_self,Nat.add_zero])) (Nat.le_refl _) hcap hs hd ⟨s0,s1,s4,s5,trivial⟩ hG (.inr ⟨x,q,⟨hx,hx1⟩,by omega,?_⟩);rw[← hfr];exact hg
 ·have hBs:=bs_of (hP.gb0 hG hbg) rfl;obtain⟨n1,hn1⟩:∃n1,Is (min p.length (64-r)) n1:=is_self _;refine wp_seq ?_;have c2:=(hg.cell 72).trans (dig_get_nx _ _ _ _ hx);have hlt:decide (0<r)=true:=by simp;omega
  refine fl2 (F:=[(0,_),(1,_),(4,_),(5,_)]) [.eq 19 _,.eq 20 _,.eq 21 _,.eq 22 _] 4 hs hd ⟨s0,s1,s4,s5,trivial⟩
   ⟨sP bq,
    sP bq,
    sP bq,
    sP bq,
    trivial⟩ ?_
  clear hs hd s0 s1 s4 s5;intro a w hb hs hd zl hh;replace zl:=lH hh 3 zl;clear hh;replace hG:=hG.after hb;replace hg:=hg.after hb;replace hBs:=hBs.after hb;replace c2:=cell_up hb c2;clear hb;refine wn 1 ?_;clear hs hd zl;intro a hs hd zl;clear c2 hlt;refine wp_cond_true (vL zl 0) ?_;refine wp_seq ?_;have c2:=(hg.cell 72).trans (dig_get_nx _ _ _ _ hx);have hr2:(r:Int)≤64:=by omega
  refine fl2 [.eq 24 _,.eq 25 _,.eq 26 _,.eq 27 _,.eq 28 _,.eq 29 _,.eq 30 _,.eq 31 _,.eq 32 _] 9 hs hd zl
   ⟨sP bq,
    sP bq,
    sP bq,
    sP bq,
    sP bq,
    sP bq,
    sP bq,
    sP bq,
    sP bq,
    trivial⟩ ?_
  clear hs hd zl;intro a w hb hs hd zl hh;replace zl:=lH hh 7 zl;replace zl:=lH hh 8 zl;clear hh;replace hG:=hG.after hb;replace hg:=hg.after hb;replace hBs:=hBs.after hb;replace c2:=cell_up hb c2;clear hb;show wpList _ _ _ [_,_] _ _
  refine tail_op rfl (fun K hK=>?_);have q31:=gL zl 1;have q32:=gL zl 0;obtain⟨s32,s31,-,-,s0,s1,s4,s5,-⟩:=zl;rw[if_neg (by omega)]at s31;refine wp_copy_dig (off:=r) (dLen:=64-r) (dCap:=64-r) (.tmp 31) (.tmp 32) rfl s31 s32 hg hx (by omega) hBs ?_;intro w2 hg2 hb2;rw[hn1.out];clear q31 q32;refine hK _ _ ?_;clear hK K;refine act_put (d:=33) _ hs hd (by decide) [(0,_),(1,_),(4,_),(5,_),(31,_),(32,_)] ⟨s0,s1,s4,s5,s31,s32,trivial⟩ rfl ?_;clear hs hd s0 s1 s4 s5 s31 s32;intro a hs hd zl;replace hG:=hG.trans hg2;replace hg:=hb2;clear hg2 hBs;obtain⟨x2,hx2e⟩:∃x2,Is (putX x r (p.take (64-r))) x2:=is_self _;have htl:(p.take (64-r)).length=n1:=by rw[List.length_take,← hn1.out];omega
  have hn1l:n1≤p.length:=by rw[← hn1.out];omega
  have hn1r:n1≤64-r:=by rw[← hn1.out];omega
  have hx2:x2.size=64:=by rw[← hx2e.out,putX_size x r _ (by omega)];exact hx
  have hx12:One x2:=by rw[← hx2e.out];exact hx1.putX r _
  have hxb2:∀j,j<r+n1→x2[j]?=some (.int .u8 (M.getD (64*q+j) 0)):=by
   intro j hj;rw[← hx2e.out];by_cases hjr:j<r
   ·rw[putX_lo _ _ _ (by omega) j hjr,hxb j hjr,hM.out,getD_app_lo p (by omega)]
   ·obtain⟨i,rfl⟩:∃i,j=r+i:=⟨j-r,by omega⟩;rw[putX_in _ _ _ (by omega) i (by omega),getD_take' _ _ _ (by omega),hM.out,show 64*q+(r+i)=m.length+i by omega,getD_app]
  rw[hx2e.out]at hg;clear hx hxb hx2e;refine wn 1 ?_;clear hs hd zl;intro a hs hd zl;clear c2 hr2;refine wp_seq ?_;have c2:=(hg.cell 72).trans (dig_get_nx _ _ _ _ hx2);obtain⟨N,hN⟩:∃N,Is (r+n1) N:=is_self _;have hNe:=hN.out;have hw:IntKind.i64.wrap ((r:Int)+(n1:Int))=((N:Nat):Int):=by rw[IntWalk.i64_in _ (by omega)];omega
  clear hNe;refine fl2 [.eq 34 _,.eq 35 _,.eq 36 _,.eq 37 _,.eq 38 _,.eq 39 _,.eq 40 _,.eq 41 _] 8 hs hd zl
   ⟨sP bq,
    sP bq,
    sP bq,
    sP bq,
    sP bq,
    sP bq,
    sP bq,
    sP bq,
    trivial⟩ ?_
  clear hs hd zl;intro a w hb hs hd zl hh;replace zl:=lH hh 5 zl;replace zl:=lH hh 7 zl;clear hh;replace hG:=hG.after hb;replace hg:=hg.after hb;replace c2:=cell_up hb c2;clear hb;show wpList _ _ _ [_] _ _
  refine tail_op rfl (fun K hK=>?_);have q39:=gL zl 1;have q41:=gL zl 0;have hfr:=hg.free (72);have hold:=(hg.cell (72)).trans (Array.getElem?_eq_getElem (show 72<_ by rw[dig_size,hx2];omega));go_simp;clear hfr hold;clear q39 q41;refine hK _ _ ?_;clear hK K;change wpList _ _ _ _ a _;replace hG:=hG.set (72) (.int .i64 ((N:Nat):Int));replace hg:=hg.set_ (72) (.int .i64 ((N:Nat):Int));rw[dig_nx _ _ _ _ _ hx2]at hg;revert hG hg;generalize World.setCell _ _ _=w;intro hG hg;clear c2 hw;by_cases hfull:N=64
  ·have hPx:BytesAt w g 8 (piece M q 1) 0 64:=by
    intro j hj;rw[hg.cell,dig_get_x _ _ _ _ j (by omega),hxb2 j (by have:=hN.out;omega),Nat.zero_add,piece_get _ _ _ _ (by omega)]
   refine wp_seq ?_;refine wp_seq ?_;have c2:=(hg.cell 72).trans (dig_get_nx _ _ _ _ hx2);have hq:((N:Int) == 64)=true:=by rw[beq_iff_eq];omega
   refine fl2 [.eq 42 _,.eq 43 _,.eq 44 _,.eq 45 _] 4 hs hd zl
    ⟨sP bq,
     sP bq,
     sP bq,
     sP bq,
     trivial⟩ ?_
   clear hs hd zl;intro a w hb hs hd zl hh;replace zl:=lH hh 3 zl;clear hh;replace hG:=hG.after hb;replace hg:=hg.after hb;replace hPx:=hPx.after hb;replace c2:=cell_up hb c2;clear hb;refine wn 1 ?_;clear hs hd zl;intro a hs hd zl;clear c2 hq;refine wp_cond_true (vL zl 0) ?_;refine wp_seq ?_;refine fl2 [.eq 47 _,.eq 48 _,.eq 49 _,.eq 50 _,.eq 51 _] 5 hs hd zl
    ⟨sP bq,
     sP bq,
     sP bq,
     sP bq,
     sP bq,
     trivial⟩ ?_
   clear hs hd zl;intro a w hb hs hd zl hh;replace zl:=lH hh 0 zl;replace zl:=lH hh 4 zl;clear hh;replace hG:=hG.after hb;replace hg:=hg.after hb;replace hPx:=hPx.after hb;clear hb;show wpList _ _ _ [_] _ _
   refine tail_op rfl (fun K hK=>?_);have q47:=gL zl 1;have q51:=gL zl 0;go_simp;refine(c_shaBlockN g g 8 (shaBlks m 0 q sha0) x2 ((N:Nat):Int) ((M.length:Nat):Int) 64 64 (piece M q 1) _ (piece_length _ _ _ (by have:=hN.out;omega)) (by omega) (by omega) (by omega) hg hx2 (piece_bytes hM8 _ _) hPx hg.lt (hKt.gb hG (fun e=>hg0 e.symm))).mono ?_;rintro e w2 ⟨rfl,hg2,hb2⟩;clear q47 q51;refine hK _ _ (tP hs hd zl ?_);clear hK K hs hd zl;intro a hs hd zl;replace hG:=hG.trans hg2;rw[hfr,show 64 / 64=1 from rfl,shaBlks_piece]at hb2;replace hg:=hb2;clear hg2 hPx;refine fl2 [.eq 53 _,.eq 54 _,.eq 55 _] 3 hs hd zl
    ⟨sP bq,
     sP bq,
     sP bq,
     trivial⟩ ?_
   clear hs hd zl;intro a w hb hs hd zl hh;replace zl:=lH hh 2 zl;clear hh;replace hG:=hG.after hb;replace hg:=hg.after hb;clear hb;show wpList _ _ _ [_] _ _
   refine tail_op rfl (fun K hK=>?_);have q55:=gL zl 0;have hfr:=hg.free (72);have hold:=(hg.cell (72)).trans (Array.getElem?_eq_getElem (show 72<_ by rw[dig_size,hx2];omega));go_simp;clear hfr hold;clear q55;refine hK _ _ ?_;clear hK K;change wpList _ _ _ _ a _;replace hG:=hG.set (72) (.int .i64 0);replace hg:=hg.set_ (72) (.int .i64 0);rw[dig_nx _ _ _ _ _ hx2]at hg;revert hG hg;generalize World.setCell _ _ _=w;intro hG hg;have hq1:(n1:Int)≤(c:Int):=by omega
   have hq2:(n1:Int)≤(p.length:Int):=by omega
   have hq3:(p.length:Int)≤(c:Int):=by omega
   refine fl2 [.eq 56 _,.eq 57 _,.eq 58 _] 3 hs hd zl
    ⟨sP bq,
     sP bq,
     sP bq,
     trivial⟩ ?_
   clear hs hd zl;intro a w hb hs hd zl hh;replace zl:=lH hh 2 zl;clear hh;replace hG:=hG.after hb;replace hg:=hg.after hb;clear hb;show wpList _ _ _ [_] _ _
   refine tail_op rfl (fun K hK=>?_);have q58:=gL zl 0;go_simp;clear q58;refine hK _ _ ?_;clear hK K;obtain⟨s58,-,-,-,-,-,-,-,-,-,-,s0,s1,s4,s5,-,-,-⟩:=zl;refine act_put (d:=1) _ hs hd (by decide) [(0,_),(4,_),(5,_),(58,_)] ⟨s0,s4,s5,s58,trivial⟩ rfl ?_;clear hs hd s0 s1 s4 s5 s58;intro a hs hd zl;clear hq1 hq2 hq3;obtain⟨s1,s0,s4,s5,-,-⟩:=zl;refine hQ a w _ (p.length-n1) (c-n1) ?_ (by omega) (by omega) hs hd ⟨s0,s1,s4,s5,trivial⟩ hG (.inr ⟨x2,q+1,⟨hx2,hx12⟩,by have:=hN.out;omega,hg⟩);by_cases h:p.length-n1=0
   ·exact .inl h
   ·exact .inr (by rw[if_neg (by omega),show p.length-(p.length-n1)=n1 by omega])
  ·refine wp_seq ?_;refine wp_seq ?_;have c2:=(hg.cell 72).trans (dig_get_nx _ _ _ _ hx2);have hq:((N:Int) == 64)=false:=by rw[beq_eq_false_iff_ne];omega
   refine fl2 [.eq 42 _,.eq 43 _,.eq 44 _,.eq 45 _] 4 hs hd zl
    ⟨sP bq,
     sP bq,
     sP bq,
     sP bq,
     trivial⟩ ?_
   clear hs hd zl;intro a w hb hs hd zl hh;replace zl:=lH hh 3 zl;clear hh;replace hG:=hG.after hb;replace hg:=hg.after hb;replace c2:=cell_up hb c2;clear hb;refine wn 1 ?_;clear hs hd zl;intro a hs hd zl;clear c2 hq;refine wp_cond_false (vL zl 0) ?_;refine wp_skip ?_;have hq1:(n1:Int)≤(c:Int):=by omega
   have hq2:(n1:Int)≤(p.length:Int):=by omega
   have hq3:(p.length:Int)≤(c:Int):=by omega
   refine fl2 [.eq 56 _,.eq 57 _,.eq 58 _] 3 hs hd zl
    ⟨sP bq,
     sP bq,
     sP bq,
     trivial⟩ ?_
   clear hs hd zl;intro a w hb hs hd zl hh;replace zl:=lH hh 2 zl;clear hh;replace hG:=hG.after hb;replace hg:=hg.after hb;clear hb;show wpList _ _ _ [_] _ _
   refine tail_op rfl (fun K hK=>?_);have q58:=gL zl 0;go_simp;clear q58;refine hK _ _ ?_;clear hK K;obtain⟨s58,-,-,-,-,-,-,s0,s1,s4,s5,-,-,-⟩:=zl;refine act_put (d:=1) _ hs hd (by decide) [(0,_),(4,_),(5,_),(58,_)] ⟨s0,s4,s5,s58,trivial⟩ rfl ?_;clear hs hd s0 s1 s4 s5 s58;intro a hs hd zl;clear hq1 hq2 hq3;have hnl:n1=p.length:=by have:=hN.out;have:=hn1.out;omega
   have h1:M.length / 64=q:=by have:=hN.out;omega
   have h2:M.length % 64=N:=by have:=hN.out;omega
   obtain⟨s1,s0,s4,s5,-,-⟩:=zl;refine hQ a w _ (p.length-n1) (c-n1) (.inl (by omega)) (by omega) (by omega) hs hd ⟨s0,s1,s4,s5,trivial⟩ hG (.inl ⟨by omega,x2,⟨hx2,hx12⟩,?_,fun j hj=>?_⟩)
   ·rw[h1,h2,← hfr];exact hg
   ·rw[h1];exact hxb2 j (by have:=hN.out;omega)
theorem wr_A0{Q:Exit→Act→World→Prop}{g b o c:Nat}{m p M:List Int}{v4 v5:Value}{w0:World}(a:Act)(w:World)(hs:SzIs a 95)(hd:DfNil a)
  (s0:a.tmps.getD 0 undef=.pointer (some ⟨g,0,none⟩))(s1:a.tmps.getD 1 undef=.slice none 0 0)(s4:a.tmps.getD 4 undef=v4)(s5:a.tmps.getD 5 undef=v5)
  (hM:Is M (m++p))(hMl:m.length+p.length=M.length)(hlen:M.length≤1000000000000)(hM8:Bytes M)(hG:GB w0 w g)(hP:BytesAt w0 b o p 0 p.length)(hbg:0<p.length→b≠g)(hKt:KTab w0 1)(hg0:g≠1)(hm8:Bytes m)(hp0:Is p []){x:Array Value}{q r:Nat}(hmq:64*q+r=m.length)(hr:r<64)(hx:x.size=64)(hx1:One x)(hg:Blk w g 188 (dig (shaBlks m 0 q sha0) x ((r:Nat):Int) ((M.length:Nat):Int)))(hxb:∀j,j<r→x[j]?=some (.int .u8 (m.getD (64*q+j) 0)))
  (hQ:∀(a:Act) (w:World) (P:Option Addr) (n c:Nat),(n=0∨P=some ⟨b,o+(p.length-n),none⟩)→n≤p.length→n≤c→SzIs a 95→DfNil a→LiveAll [(0,.pointer (some ⟨g,0,none⟩)),(1,.slice P n c),(4,v4),(5,v5)] a→GB w0 w g→MidD w g M n→Q .normal a w):wrA.wp Tryz.prog Q a w:=by
 conv=>arg 2;whnf
 have hfr:shaBlks m 0 q sha0=shaBlks M 0 q sha0:=by
  have h:=shaBlks_front hM
  rwa [show m.length / 64=q by omega]at h
 by_cases h0:r=0
 ·subst h0;have hpl:p.length=0:=by rw[hp0.out];rfl
  refine wp_seq ?_;have c2:=(hg.cell 72).trans (dig_get_nx _ _ _ _ hx);refine fl2 (F:=[(0,_),(1,_),(4,_),(5,_)]) [.eq 19 _,.eq 20 _,.eq 21 _,.eq 22 _] 4 hs hd ⟨s0,s1,s4,s5,trivial⟩
   ⟨sP bq,
    sP bq,
    sP bq,
    sP bq,
    trivial⟩ ?_
  clear hs hd s0 s1 s4 s5;intro a w hb hs hd zl hh;replace zl:=lH hh 3 zl;clear hh;replace hG:=hG.after hb;replace hg:=hg.after hb;replace c2:=cell_up hb c2;clear hb;refine wn 1 ?_;clear hs hd zl;intro a hs hd zl;clear c2;refine wp_cond_false (vL zl 0) ?_;refine wp_skip ?_;obtain⟨s23,-,s0,s1,s4,s5,-⟩:=zl;refine hQ a w _ 0 0 (.inl rfl) (Nat.zero_le _) (Nat.le_refl _) hs hd ⟨s0,s1,s4,s5,trivial⟩ hG (.inr ⟨x,q,⟨hx,hx1⟩,by omega,?_⟩);rw[← hfr];exact hg
 ·have hpl:p.length=0:=by rw[hp0.out];rfl
  have hBs:Bs w none p:=by rw[hp0.out];exact Bs.nil _ _
  obtain⟨n1,hn1⟩:∃n1,Is (min p.length (64-r)) n1:=is_self _;refine wp_seq ?_;have c2:=(hg.cell 72).trans (dig_get_nx _ _ _ _ hx);have hlt:decide (0<r)=true:=by simp;omega
  refine fl2 (F:=[(0,_),(1,_),(4,_),(5,_)]) [.eq 19 _,.eq 20 _,.eq 21 _,.eq 22 _] 4 hs hd ⟨s0,s1,s4,s5,trivial⟩
   ⟨sP bq,
    sP bq,
    sP bq,
    sP bq,
    trivial⟩ ?_
  clear hs hd s0 s1 s4 s5;intro a w hb hs hd zl hh;replace zl:=lH hh 3 zl;clear hh;replace hG:=hG.after hb;replace hg:=hg.after hb;replace hBs:=hBs.after hb;replace c2:=cell_up hb c2;clear hb;refine wn 1 ?_;clear hs hd zl;intro a hs hd zl;clear c2 hlt;refine wp_cond_true (vL zl 0) ?_;refine wp_seq ?_;have c2:=(hg.cell 72).trans (dig_get_nx _ _ _ _ hx);have hr2:(r:Int)≤64:=by omega
  refine fl2 [.eq 24 _,.eq 25 _,.eq 26 _,.eq 27 _,.eq 28 _,.eq 29 _,.eq 30 _,.eq 31 _,.eq 32 _] 9 hs hd zl
   ⟨sP bq,
    sP bq,
    sP bq,
    sP bq,
    sP bq,
    sP bq,
    sP bq,
    sP bq,
    sP bq,
    trivial⟩ ?_
  clear hs hd zl;intro a w hb hs hd zl hh;replace zl:=lH hh 7 zl;replace zl:=lH hh 8 zl;clear hh;replace hG:=hG.after hb;replace hg:=hg.after hb;replace hBs:=hBs.after hb;replace c2:=cell_up hb c2;clear hb;show wpList _ _ _ [_,_] _ _
  refine tail_op rfl (fun K hK=>?_);have q31:=gL zl 1;have q32:=gL zl 0;obtain⟨s32,s31,-,-,s0,s1,s4,s5,-⟩:=zl;rw[if_neg (by omega)]at s31;refine wp_copy_dig (off:=r) (dLen:=64-r) (dCap:=64-r) (.tmp 31) (.tmp 32) rfl s31 (c:=0) (show a.tmps.getD 32 undef=_ by rw[s32,hpl]) hg hx (by omega) hBs ?_;intro w2 hg2 hb2;rw[hn1.out];clear q31 q32;refine hK _ _ ?_;clear hK K;refine act_put (d:=33) _ hs hd (by decide) [(0,_),(1,_),(4,_),(5,_),(31,_),(32,_)] ⟨s0,s1,s4,s5,s31,s32,trivial⟩ rfl ?_;clear hs hd s0 s1 s4 s5 s31 s32;intro a hs hd zl;replace hG:=hG.trans hg2;replace hg:=hb2;clear hg2 hBs;obtain⟨x2,hx2e⟩:∃x2,Is (putX x r (p.take (64-r))) x2:=is_self _;have htl:(p.take (64-r)).length=n1:=by rw[List.length_take,← hn1.out];omega
  have hn1l:n1≤p.length:=by rw[← hn1.out];omega
  have hn1r:n1≤64-r:=by rw[← hn1.out];omega
  have hx2:x2.size=64:=by rw[← hx2e.out,putX_size x r _ (by omega)];exact hx
  have hx12:One x2:=by rw[← hx2e.out];exact hx1.putX r _
  have hxb2:∀j,j<r+n1→x2[j]?=some (.int .u8 (M.getD (64*q+j) 0)):=by
   intro j hj;rw[← hx2e.out];by_cases hjr:j<r
   ·rw[putX_lo _ _ _ (by omega) j hjr,hxb j hjr,hM.out,getD_app_lo p (by omega)]
   ·obtain⟨i,rfl⟩:∃i,j=r+i:=⟨j-r,by omega⟩;rw[putX_in _ _ _ (by omega) i (by omega),getD_take' _ _ _ (by omega),hM.out,show 64*q+(r+i)=m.length+i by omega,getD_app]
  rw[hx2e.out]at hg;clear hx hxb hx2e;refine wn 1 ?_;clear hs hd zl;intro a hs hd zl;clear c2 hr2;refine wp_seq ?_;have c2:=(hg.cell 72).trans (dig_get_nx _ _ _ _ hx2);obtain⟨N,hN⟩:∃N,Is (r+n1) N:=is_self _;have hNe:=hN.out;have hw:IntKind.i64.wrap ((r:Int)+(n1:Int))=((N:Nat):Int):=by rw[IntWalk.i64_in _ (by omega)];omega
  clear hNe;refine fl2 [.eq 34 _,.eq 35 _,.eq 36 _,.eq 37 _,.eq 38 _,.eq 39 _,.eq 40 _,.eq 41 _] 8 hs hd zl
   ⟨sP bq,
    sP bq,
    sP bq,
    sP bq,
    sP bq,
    sP bq,
    sP bq,
    sP bq,
    trivial⟩ ?_
  clear hs hd zl;intro a w hb hs hd zl hh;replace zl:=lH hh 5 zl;replace zl:=lH hh 7 zl;clear hh;replace hG:=hG.after hb;replace hg:=hg.after hb;replace c2:=cell_up hb c2;clear hb;show wpList _ _ _ [_] _ _
  refine tail_op rfl (fun K hK=>?_);have q39:=gL zl 1;have q41:=gL zl 0;have hfr:=hg.free (72);have hold:=(hg.cell (72)).trans (Array.getElem?_eq_getElem (show 72<_ by rw[dig_size,hx2];omega));go_simp;clear hfr hold;clear q39 q41;refine hK _ _ ?_;clear hK K;change wpList _ _ _ _ a _;replace hG:=hG.set (72) (.int .i64 ((N:Nat):Int));replace hg:=hg.set_ (72) (.int .i64 ((N:Nat):Int));rw[dig_nx _ _ _ _ _ hx2]at hg;revert hG hg;generalize World.setCell _ _ _=w;intro hG hg;clear c2 hw;by_cases hfull:N=64
  ·have hPx:BytesAt w g 8 (piece M q 1) 0 64:=by
    intro j hj;rw[hg.cell,dig_get_x _ _ _ _ j (by omega),hxb2 j (by have:=hN.out;omega),Nat.zero_add,piece_get _ _ _ _ (by omega)]
   refine wp_seq ?_;refine wp_seq ?_;have c2:=(hg.cell 72).trans (dig_get_nx _ _ _ _ hx2);have hq:((N:Int) == 64)=true:=by rw[beq_iff_eq];omega
   refine fl2 [.eq 42 _,.eq 43 _,.eq 44 _,.eq 45 _] 4 hs hd zl
    ⟨sP bq,
     sP bq,
     sP bq,
     sP bq,
     trivial⟩ ?_
   clear hs hd zl;intro a w hb hs hd zl hh;replace zl:=lH hh 3 zl;clear hh;replace hG:=hG.after hb;replace hg:=hg.after hb;replace hPx:=hPx.after hb;replace c2:=cell_up hb c2;clear hb;refine wn 1 ?_;clear hs hd zl;intro a hs hd zl;clear c2 hq;refine wp_cond_true (vL zl 0) ?_;refine wp_seq ?_;refine fl2 [.eq 47 _,.eq 48 _,.eq 49 _,.eq 50 _,.eq 51 _] 5 hs hd zl
    ⟨sP bq,
     sP bq,
     sP bq,
     sP bq,
     sP bq,
     trivial⟩ ?_
   clear hs hd zl;intro a w hb hs hd zl hh;replace zl:=lH hh 0 zl;replace zl:=lH hh 4 zl;clear hh;replace hG:=hG.after hb;replace hg:=hg.after hb;replace hPx:=hPx.after hb;clear hb;show wpList _ _ _ [_] _ _
   refine tail_op rfl (fun K hK=>?_);have q47:=gL zl 1;have q51:=gL zl 0;go_simp;refine(c_shaBlockN g g 8 (shaBlks m 0 q sha0) x2 ((N:Nat):Int) ((M.length:Nat):Int) 64 64 (piece M q 1) _ (piece_length _ _ _ (by have:=hN.out;omega)) (by omega) (by omega) (by omega) hg hx2 (piece_bytes hM8 _ _) hPx hg.lt (hKt.gb hG (fun e=>hg0 e.symm))).mono ?_;rintro e w2 ⟨rfl,hg2,hb2⟩;clear q47 q51;refine hK _ _ (tP hs hd zl ?_);clear hK K hs hd zl;intro a hs hd zl;replace hG:=hG.trans hg2;rw[hfr,show 64 / 64=1 from rfl,shaBlks_piece]at hb2;replace hg:=hb2;clear hg2 hPx;refine fl2 [.eq 53 _,.eq 54 _,.eq 55 _] 3 hs hd zl
    ⟨sP bq,
     sP bq,
     sP bq,
     trivial⟩ ?_
   clear hs hd zl;intro a w hb hs hd zl hh;replace zl:=lH hh 2 zl;clear hh;replace hG:=hG.after hb;replace hg:=hg.after hb;clear hb;show wpList _ _ _ [_] _ _
   refine tail_op rfl (fun K hK=>?_);have q55:=gL zl 0;have hfr:=hg.free (72);have hold:=(hg.cell (72)).trans (Array.getElem?_eq_getElem (show 72<_ by rw[dig_size,hx2];omega));go_simp;clear hfr hold;clear q55;refine hK _ _ ?_;clear hK K;change wpList _ _ _ _ a _;replace hG:=hG.set (72) (.int .i64 0);replace hg:=hg.set_ (72) (.int .i64 0);rw[dig_nx _ _ _ _ _ hx2]at hg;revert hG hg;generalize World.setCell _ _ _=w;intro hG hg;have hz:n1=0:=by omega
   subst hz;refine fl2 [.eq 56 _,.eq 57 _,.eq 58 _] 3 hs hd zl
    ⟨sP bq,
     sP bq,
     sP bq,
     trivial⟩ ?_
   clear hs hd zl;intro a w hb hs hd zl hh;replace zl:=lH hh 2 zl;clear hh;replace hG:=hG.after hb;replace hg:=hg.after hb;clear hb;show wpList _ _ _ [_] _ _
   refine tail_op rfl (fun K hK=>?_);have q58:=gL zl 0;go_simp;clear q58;refine hK _ _ ?_;clear hK K;obtain⟨s58,-,-,-,-,-,-,-,-,-,-,s0,s1,s4,s5,-,-,-⟩:=zl;refine act_put (d:=1) _ hs hd (by decide) [(0,_),(4,_),(5,_),(58,_)] ⟨s0,s4,s5,s58,trivial⟩ rfl ?_;clear hs hd s0 s1 s4 s5 s58;intro a hs hd zl;obtain⟨s1,s0,s4,s5,-,-⟩:=zl;exact hQ a w _ 0 0 (.inl rfl) (Nat.zero_le _) (Nat.le_refl _) hs hd ⟨s0,s1,s4,s5,trivial⟩ hG (.inr ⟨x2,q+1,⟨hx2,hx12⟩,by have:=hN.out;omega,hg⟩)
  ·refine wp_seq ?_;refine wp_seq ?_;have c2:=(hg.cell 72).trans (dig_get_nx _ _ _ _ hx2);have hq:((N:Int) == 64)=false:=by rw[beq_eq_false_iff_ne];omega
   refine fl2 [.eq 42 _,.eq 43 _,.eq 44 _,.eq 45 _] 4 hs hd zl
    ⟨sP bq,
     sP bq,
     sP bq,
     sP bq,
     trivial⟩ ?_
   clear hs hd zl;intro a w hb hs hd zl hh;replace zl:=lH hh 3 zl;clear hh;replace hG:=hG.after hb;replace hg:=hg.after hb;replace c2:=cell_up hb c2;clear hb;refine wn 1 ?_;clear hs hd zl;intro a hs hd zl;clear c2 hq;refine wp_cond_false (vL zl 0) ?_;refine wp_skip ?_;have hz:n1=0:=by omega
   subst hz;refine fl2 [.eq 56 _,.eq 57 _,.eq 58 _] 3 hs hd zl
    ⟨sP bq,
     sP bq,
     sP bq,
     trivial⟩ ?_
   clear hs hd zl;intro a w hb hs hd zl hh;replace zl:=lH hh 2 zl;clear hh;replace hG:=hG.after hb;replace hg:=hg.after hb;clear hb;show wpList _ _ _ [_] _ _
   refine tail_op rfl (fun K hK=>?_);have q58:=gL zl 0;go_simp;clear q58;refine hK _ _ ?_;clear hK K;obtain⟨s58,-,-,-,-,-,-,s0,s1,s4,s5,-,-,-⟩:=zl;refine act_put (d:=1) _ hs hd (by decide) [(0,_),(4,_),(5,_),(58,_)] ⟨s0,s4,s5,s58,trivial⟩ rfl ?_;clear hs hd s0 s1 s4 s5 s58;intro a hs hd zl;have h1:M.length / 64=q:=by have:=hN.out;omega
   have h2:M.length % 64=N:=by have:=hN.out;omega
   obtain⟨s1,s0,s4,s5,-,-⟩:=zl;refine hQ a w _ 0 0 (.inl rfl) (Nat.zero_le _) (Nat.le_refl _) hs hd ⟨s0,s1,s4,s5,trivial⟩ hG (.inl ⟨by omega,x2,⟨hx2,hx12⟩,?_,fun j hj=>?_⟩)
   ·rw[h1,h2,← hfr];exact hg
   ·rw[h1];exact hxb2 j (by have:=hN.out;omega)
theorem c_Write(g c:Nat)(m p:List Int)(A:Option Addr)(w:World)(hA:(A=none∧c=0∧Is p [])∨∃b o,A=some ⟨b,o,none⟩)(hD:Dst w g m)(hp:Bs w A p)(hfar:Far A p (some g))(hcap:p.length≤c)(hm8:Bytes m)(hp8:Bytes p)
  (hlen:m.length+p.length≤1000000000000)(hKt:KTab w 1)(hg0:g≠1):
  Calls Tryz.prog 79 #[.pointer (some ⟨g,0,none⟩),.slice A p.length c] w fun e w'=>e=.returned (.tuple #[.int .i64 ((p.length:Nat):Int),.nilIface])∧w.grownBy w' (some g)∧Dst w' g (m++p):=by
 obtain⟨M,hM⟩:∃M,Is (m++p) M:=is_self _;have hMl:m.length+p.length=M.length:=by rw[← hM.out,List.length_append]
 have hM8:Bytes M:=by rw[← hM.out];exact hm8.append hp8
 rw[hM.out];obtain⟨x,⟨hx,hx1⟩,hg,hxb⟩:=hD;obtain⟨w0,hw0⟩:∃w0,Is w w0:=is_self _;have hE:GB w0 w g:=by rw[← hw0.out];exact GB.refl w g
 have hp0:Bs w0 A p:=by rw[← hw0.out];exact hp
 have hK0:KTab w0 1:=by rw[← hw0.out];exact hKt
 clear hp hKt;have HM:=Is.hid hMl;clear hMl;refine enter_abs Tryz.func79 rfl 95 rfl (by simp) ?_;intro a hs hd hargs;have s0:=hargs 0 _ rfl;have s1:=hargs 1 _ rfl;clear hargs;show Code.wp _ _ (bodyPost _ _ (fun e w'=>e=_∧w.grownBy w' (some g)∧Dst w' g M)) a w
 rw[hw0.out];rw[hw0.out]at hE hg;have hG:=hE;clear hE hw0 w;refine wp_seq ?_;refine fl2 (F:=[(0,_),(1,_)]) [.eq 4 _] 1 hs hd ⟨s0,s1,trivial⟩
  ⟨sP bq,
   trivial⟩ ?_
 clear hs hd s0 s1;intro a w hb hs hd zl hh;replace zl:=lH hh 0 zl;clear hh;replace hG:=hG.after hb;replace hg:=hg.after hb;clear hb;show wpList _ _ _ [_] _ _
 refine tail_op rfl (fun K hK=>?_);go_simp;refine hK _ _ (tP hs hd zl ?_);clear hK K hs hd zl;intro a hs hd zl;refine wp_seq ?_;refine fl2 [.eq 8 _,.eq 9 _] 2 hs hd zl
  ⟨sP bq,
   sP bq,
   trivial⟩ ?_
 clear hs hd zl;intro a w hb hs hd zl hh;replace zl:=lH hh 1 zl;clear hh;replace hG:=hG.after hb;replace hg:=hg.after hb;clear hb;show wpList _ _ _ [_] _ _
 refine tail_op rfl (fun K hK=>?_);have q9:=gL zl 0;go_simp;clear q9;refine hK _ _ ?_;clear hK K;obtain⟨s9,s5,s4,s0,s1,-⟩:=zl;refine act_put (d:=4) _ hs hd (by decide) [(0,_),(1,_),(5,_),(9,_)] ⟨s0,s1,s5,s9,trivial⟩ rfl ?_;clear hs hd s0 s1 s4 s5 s9;intro a hs hd zl;refine wp_seq ?_;have c3:=(hg.cell 73).trans (dig_get_ln _ _ _ _ hx);have hw1:IntKind.u64.wrap (p.length:Int)=(p.length:Int):=IntWalk.u64_in _ (by omega);have hw2:IntKind.u64.wrap ((m.length:Int)+(p.length:Int))=((M.length:Nat):Int):=by rw[IntWalk.u64_in _ (by omega)];have:=HM.out;omega
 refine fl2 [.eq 10 _,.eq 11 _,.eq 12 _,.eq 13 _,.eq 14 _,.eq 15 _,.eq 16 _,.eq 17 _,.eq 18 _] 9 hs hd zl
  ⟨sP bq,
   sP bq,
   sP bq,
   sP bq,
   sP bq,
   sP bq,
   sP bq,
   sP bq,
   sP bq,
   trivial⟩ ?_
 clear hs hd zl;intro a w hb hs hd zl hh;replace zl:=lH hh 6 zl;replace zl:=lH hh 8 zl;clear hh;replace hG:=hG.after hb;replace hg:=hg.after hb;replace c3:=cell_up hb c3;clear hb;show wpList _ _ _ [_] _ _
 refine tail_op rfl (fun K hK=>?_);have q16:=gL zl 1;have q18:=gL zl 0;have hfr:=hg.free (73);have hold:=(hg.cell (73)).trans (Array.getElem?_eq_getElem (show 73<_ by rw[dig_size,hx];omega));go_simp;clear hfr hold;clear q16 q18;refine hK _ _ ?_;clear hK K;change wpList _ _ _ _ a _;replace hG:=hG.set (73) (.int .u64 ((M.length:Nat):Int));replace hg:=hg.set_ (73) (.int .u64 ((M.length:Nat):Int));rw[dig_ln _ _ _ _ _ hx]at hg;revert hG hg;generalize World.setCell _ _ _=w;intro hG hg;clear c3 hw1 hw2;have hMl:=HM.out;have hmq:64*(m.length / 64)+m.length % 64=m.length:=by omega
 refine wp_seq ?_;obtain⟨-,-,s4,s0,s1,s5,-,-⟩:=zl;have hend:∀(b o:Nat) (hP:BytesAt w0 b o p 0 p.length) (hbs:0<p.length→b<w0.heap.size) (hbg:0<p.length→b≠g) (a:Act) (w:World) (P:Option Addr) (n c:Nat),(n=0∨P=some ⟨b,o+(p.length-n),none⟩)→n≤p.length→n≤c→SzIs a 95→DfNil a→LiveAll [(0,.pointer (some ⟨g,0,none⟩)),(1,.slice P n c),(4,.int .i64 ((p.length:Nat):Int)),(5,.nilIface)] a→GB w0 w g→MidD w g M n→Code.wp Tryz.prog (partAt [true,true,true,true] (Tryz.f79.body.getD .skip)) (bodyPost Tryz.prog Tryz.f79 (fun e w'=>e=.returned (.tuple #[.int .i64 ((p.length:Nat):Int),.nilIface])∧w0.grownBy w' (some g)∧Dst w' g M)) a w:=by
  intro b o hP hbs hbg a w P n c hPn hn hnc hs hd ⟨s0,s1,s4,s5,_⟩ hG hMid;conv=>arg 2;whnf
  refine wp_seq ?_;refine wr_B a w hs hd s0 s1 s4 s5 hM.out.symm hMl (by omega) hM8 hG hP hbg hK0 hg0 hbs hnc hPn hn hMid ?_;intro a w P n c hPn hn h64 hnc hs hd ⟨s0,s1,s4,s5,_⟩ hG hMid;refine wp_seq ?_;refine wr_C a w hs hd s0 s1 s4 s5 hM.out.symm hMl (by omega) hM8 hG hP hbg hK0 hg0 hnc hPn hn h64 hMid ?_;intro a w hs hd ⟨s4,s5,_⟩ hG hDst;refine wp_ret ?_;exact end_tmp2 rfl hd s4 s5 ⟨rfl,hG,hDst⟩
 rcases hA with⟨rfl,rfl,hpn⟩|⟨b,o,rfl⟩
 ·have hpl:p.length=0:=by rw[hpn.out];rfl
  have hP:BytesAt w0 0 0 p 0 p.length:=fun j hj=>absurd hj (by omega)
  refine wr_A0 (c:=0) a _ hs hd s0 (by rw[s1,hpl];rfl) s4 s5 hM.out.symm hMl (by omega) hM8 hG hP (fun h=>absurd h (by omega)) hK0 hg0 hm8 hpn hmq (by omega) hx hx1 hg hxb ?_;intro a w P n c h1 h2 h3 h4 h5 h6 h7 h8;exact hend 0 0 hP (fun h=>absurd h (by omega)) (fun h=>absurd h (by omega)) a w P n c h1 h2 h3 h4 h5 h6 h7 h8
 ·have hP:BytesAt w0 b o p 0 p.length:=fun j hj=>by
   obtain⟨b',o',e,_,hc⟩:=hp0 j hj;injection e with e;injection e with e1 e2;subst e1 e2;rw[Nat.zero_add];exact hc
  have hne:0<p.length→p≠[]:=fun h e=>by rw[e]at h;cases h
  have hbs:0<p.length→b<w0.heap.size:=fun h=>by
   obtain⟨k,hk,hlt⟩:=hp0.blk (hne h);injection hk with hk;subst hk;exact hlt
  have hbg:0<p.length→b≠g:=fun h e=>hfar (hne h) (by rw[e];rfl)
  refine wr_A a _ hs hd s0 s1 s4 s5 hM.out.symm hMl (by omega) hM8 hG hP hbg hK0 hg0 hm8 hcap hmq (by omega) hx hx1 hg hxb ?_;intro a w P n c h1 h2 h3 h4 h5 h6 h7 h8;exact hend b o hP hbs hbg a w P n c h1 h2 h3 h4 h5 h6 h7 h8
theorem GB.via{w0 w w1:World}{g T:Nat}(h:GB w0 w g)(k:GB w w1 T)(hT:w0.heap.size≤T):GB w0 w1 g:=
 ⟨k.os.trans h.os,k.tape.trans h.tape,k.output.trans h.output,Nat.le_trans h.size k.size,
  fun b hb hn=>(k.block b (Nat.lt_of_lt_of_le hb h.size) (fun e=>by injection e;omega)).trans (h.block b hb hn)⟩
theorem GB.setv{w0 w:World}{g T:Nat}(h:GB w0 w g)(hT:w0.heap.size≤T)(o:Nat)(u:Value):GB w0 (w.setCell ⟨T,o,none⟩ u) g:=h.via ((GB.refl w T).set o u) hT
theorem Blk.gbfar{w w1:World}{g T:Nat}{t:TypeId}{cs:Array Value}(h:Blk w g t cs)(k:GB w w1 T)(hn:T≠g):Blk w1 g t cs:=(k.block g h.lt (fun e=>hn (by injection e with e;exact e.symm))).trans h
theorem Dst.gbfar{w w1:World}{g T:Nat}{m:List Int}(h:Dst w g m)(k:GB w w1 T)(hn:T≠g):Dst w1 g m:=by
 obtain⟨x,h1,h2,h3⟩:=h;exact⟨x,h1,h2.gbfar k hn,h3⟩
theorem gb1(w:World)(T o:Nat)(u:Value):GB w (w.setCell ⟨T,o,none⟩ u) T:=(GB.refl w T).set o u
def zs(n:Nat):Array Value:=(List.replicate n (Value.int .u8 0)).toArray
theorem zs_size(n:Nat):(zs n).size=n:=by simp[zs]
theorem zs_get{n i:Nat}(h:i<n):(zs n)[i]?=some (.int .u8 0):=by simp[zs,h]
theorem putX_hi(x:Array Value)(off:Nat)(l:List Int)(h:off+l.length≤x.size)(j:Nat)(hj:off+l.length≤j):(putX x off l)[j]?=x[j]?:=by
 unfold putX;have h1:(x.toList.take off++l.map (Value.int .u8)).length=off+l.length:=by simp;omega
 rw[List.getElem?_toArray,List.getElem?_append_right (by omega),h1,List.getElem?_drop];rw[show off+l.length+(j-(off+l.length))=j by omega,Array.getElem?_toList]
theorem putX_two(x:Array Value)(off:Nat)(l k:List Int)(h:off+l.length≤x.size):putX (putX x off l) (off+l.length) k=putX x off (l++k):=by
 apply Array.ext';unfold putX;have h1:(x.toList.take off++l.map (Value.int .u8)).length=off+l.length:=by simp;omega
 have h2:(List.take off x.toList++List.map (Value.int .u8) l++List.drop (off+l.length) x.toList).take (off+l.length)=List.take off x.toList++List.map (Value.int .u8) l:=List.take_left' h1;have h3:(List.take off x.toList++List.map (Value.int .u8) l++List.drop (off+l.length) x.toList).drop (off+l.length+k.length)=List.drop (off+(l++k).length) x.toList:=by
  rw[← List.drop_drop,List.drop_left' h1,List.drop_drop,List.length_append]
  congr 1
  omega
 show List.take (off+l.length) (List.take off x.toList++List.map (Value.int .u8) l++List.drop (off+l.length) x.toList)++_++_=_
 rw[h2];show _++List.drop (off+l.length+k.length) (List.take off x.toList++List.map (Value.int .u8) l++List.drop (off+l.length) x.toList)=_
 rw[h3,List.map_append];simp only[List.append_assoc]
theorem c_putD{D i:Nat}{l:List Int}{v:Int}{w:World}(hl:l.length=4*i)(hi:i<8)(hv:U32 v)(hg:Blk w D 190 (putX (zs 32) 0 l))(o n c:Nat)(ho:o=4*i)(hn:n+4*i=32):
  Calls Tryz.prog 101 #[.slice (some ⟨D,o,none⟩) n c,.int .u32 v] w fun e w'=>e=.returned (.tuple #[])∧w.grownBy w' (some D)∧Blk w' D 190 (putX (zs 32) 0 (l++be32 v)):=by
 subst ho;have hsz:=putX_size (zs 32) 0 l (by rw[zs_size];omega);rw[zs_size]at hsz;have h:=c_put32 D (4*i) n c _ _ v w hg hv (by omega) (by rw[hsz];omega) (fun j hj=>⟨0,by rw[putX_hi _ _ _ (by rw[zs_size];omega) _ (by omega),zs_get (by omega)]⟩);have e:=putX_two (zs 32) 0 l (be32 v) (by rw[zs_size];omega);rw[Nat.zero_add,hl]at e;rw[e]at h;exact h
theorem shaTail_at{n t:Nat}(h1:1≤t)(h2:t≤64)(ht:shaZeros n=t-1){i:Nat}(hi:i<t+8):
  (putX ((zs 72).setIfInBounds 0 (.int .u8 128)) t (be64 (8*n)))[i]?=some (.int .u8 ((shaTail n).getD i 0)):=by
 have hs:((zs 72).setIfInBounds 0 (Value.int .u8 128)).size=72:=by rw[Array.size_setIfInBounds,zs_size]
 have hb:(be64 (8*n)).length=8:=rfl;unfold shaTail;rw[ht];by_cases hit:i<t
 ·rw[putX_lo _ _ _ (by omega) _ hit];rcases Nat.eq_zero_or_pos i with h0|h0
  ·subst h0;rw[Array.getElem?_setIfInBounds_self_of_lt (by rw[zs_size];omega)];rfl
  ·rw[Array.getElem?_setIfInBounds_ne (by omega),zs_get (by omega)];obtain⟨j,rfl⟩:∃j,i=j+1:=⟨i-1,by omega⟩;have hj:j<t-1:=by omega
   simp[List.getD_eq_getElem?_getD,List.getElem?_append_left,hj]
 ·obtain⟨j,rfl⟩:∃j,i=t+j:=⟨i-t,by omega⟩;rw[putX_in _ _ _ (by omega) _ (by omega)];have e:(128::(List.replicate (t-1) (0:Int)++be64 (8*n)))=(128::List.replicate (t-1) 0)++be64 (8*n):=rfl;have e2:(128::List.replicate (t-1) (0:Int)).length=t:=by simp;omega
  have:=getD_app (128::List.replicate (t-1) (0:Int)) (be64 (8*n)) j;rw[e2]at this;rw[e,this]
theorem shaTail_length{n t:Nat}(h1:1≤t)(ht:shaZeros n=t-1):(shaTail n).length=t+8:=by
 unfold shaTail;rw[ht];simp[be64];omega
theorem shaTail_bytes(n:Nat):Bytes (shaTail n):=by
 intro x hx;unfold shaTail at hx;rcases List.mem_cons.1 hx with h|h
 ·subst h;exact⟨by decide,by decide⟩
 ·rcases List.mem_append.1 h with h|h
  ·rw[List.eq_of_mem_replicate h];exact⟨by decide,by decide⟩
  ·unfold be64 at h;simp only[List.mem_cons,List.not_mem_nil,or_false]at h;unfold U8;omega
theorem padded_mod(m:List Int):(padded m).length % 64=0:=by
 unfold padded;have:(shaTail m.length).length=shaZeros m.length+9:=by unfold shaTail;simp[be64]
 rw[List.length_append,this];unfold shaZeros;omega
theorem be32_length(x:Int):(be32 x).length=4:=rfl
theorem shaOut_length(s:ShaSt):(shaOut s).length=32:=rfl
theorem be32_bytes{x:Int}(h:U32 x):Bytes (be32 x):=by
 unfold U32 at h;intro y hy;unfold be32 at hy;simp only[List.mem_cons,List.not_mem_nil,or_false]at hy;unfold U8;omega
def arr32(l:List Int):Value:=.agg (l.map (Value.int .u8)).toArray
theorem putX_ext(l:List Int)(h:l.length=32):(putX (zs 32) 0 l).extract 0 (0+32)=(l.map (Value.int .u8)).toArray:=by
 apply Array.ext';unfold putX zs;simp[h];rw[List.take_of_length_le (by simp[h])]
theorem one_u8(l:List Int):∀v∈((l.map (Value.int .u8)).toArray).toList,v.oneCell'=true:=by
 intro v hv;obtain⟨a,-,rfl⟩:=List.mem_map.1 (by simpa using hv);rfl
theorem gb_setRow(w:World)(g:Nat)(cs:Array Value):GB w (w.setRow g cs) g:=⟨rfl,rfl,rfl,by simp,fun k hk hn=>setRow_other _ _ _ _ (fun e=>hn (by rw[e]))⟩
noncomputable def csRest:Code:=partAt [true,true,true,true,true,true] (Tryz.f90.body.getD .skip)
def St32(s:ShaSt):Prop:=U32 s.a∧U32 s.b∧U32 s.c∧U32 s.d∧U32 s.e∧U32 s.f∧U32 s.g∧U32 s.h
theorem addSt_U32(s t:ShaSt):St32 (addSt s t):=⟨add32_U32 _ _,add32_U32 _ _,add32_U32 _ _,add32_U32 _ _,add32_U32 _ _,add32_U32 _ _,add32_U32 _ _,add32_U32 _ _⟩
theorem shaBlk_U32(b:List Int)(p:Nat)(s:ShaSt):St32 (shaBlk b p s):=by unfold shaBlk;generalize shaRds b p s 64=t;exact addSt_U32 s t
theorem shaBlks_U32(b:List Int)(n:Nat):∀(p:Nat) (s:ShaSt),St32 s→St32 (shaBlks b p n s):=by
 induction n with
 |zero=>exact fun p s h=>h
 |succ n ih=>exact fun p s h=>by rw[shaBlks];exact ih _ _ (shaBlk_U32 b p s)
theorem sha0_U32:St32 sha0:=by unfold St32 U32 sha0;decide
theorem cs_rest{R:Ending→World→Prop}{g R0 T t:Nat}{m:List Int}{w0:World}(a:Act)(w:World)(hs:SzIs a 104)(hd:DfNil a)
  (s0:a.tmps.getD 0 undef=.pointer (some ⟨g,0,none⟩))(s2:a.tmps.getD 2 undef=.pointer (some ⟨R0,0,none⟩))(s3:a.tmps.getD 3 undef=.int .u64 ((m.length:Nat):Int))(s4:a.tmps.getD 4 undef=.pointer (some ⟨T,0,none⟩))(s5:a.tmps.getD 5 undef=.int .u64 (t:Int))
  (h1:1≤t)(h2:t≤64)(ht:shaZeros m.length=t-1)(hm8:Bytes m)(hlen:m.length≤900000000000)(hG:GB w0 w g)(hD:Dst w g m)(hT:Blk w T 196 ((zs 72).setIfInBounds 0 (.int .u8 128)))(hR:Blk w R0 190 (zs 32))(hKt:KTab w 1)(hg0:g≠1)(hT0:w0.heap.size≤T)(hR0:w0.heap.size≤R0)(hgw:g<w0.heap.size)(hKw:1<w0.heap.size)(hRT:R0≠T)
  (hQ:∀w',GB w0 w' g→w'.cell? ⟨g,74,none⟩=some (.bool false)→R (.returned (arr32 (sha m))) w'):csRest.wp Tryz.prog (bodyPost Tryz.prog Tryz.f90 R) a w:=by
 conv=>arg 2;whnf
 obtain⟨L8,hL8⟩:∃L8,Is (8*m.length) L8:=is_self _;have hw3:IntKind.u64.wrap (((m.length:Nat):Int)*8)=(L8:Int):=by rw[IntKind.wrap_u64,← hL8.out];omega
 have hL8':L8<18446744073709551616:=by rw[← hL8.out];omega
 have hw5:IntKind.u64.wrap ((t:Int)+8)=((t+8:Nat):Int):=by rw[IntKind.wrap_u64];omega
 have hw0:IntKind.u64.wrap (t:Int)=(t:Int):=by rw[IntKind.wrap_u64];omega
 have hTg:T≠g:=by omega
 have hRg:R0≠g:=by omega
 refine wp_seq ?_;refine fl2 (F:=[(0,_),(2,_),(3,_),(4,_),(5,_)]) [.eq 22 _,.eq 23 _] 2 hs hd ⟨s0,s2,s3,s4,s5,trivial⟩
  ⟨sP bq,
   sP bq,
   trivial⟩ ?_
 clear hs hd s0 s2 s3 s4 s5;intro a w hb hs hd zl hh;replace zl:=lH hh 1 zl;clear hh;replace hG:=hG.after hb;replace hD:=hD.after hb;replace hT:=hT.after hb;replace hR:=hR.after hb;replace hKt:=hKt.after hb;clear hb;show wpList _ _ _ [_] _ _
 refine tail_op rfl (fun K hK=>?_);have q23:=gL zl 0;go_simp;clear q23;refine hK _ _ ?_;clear hK K;obtain⟨s23,s0,s2,s3,s4,s5,-⟩:=zl;refine act_put (d:=3) _ hs hd (by decide) [(0,_),(2,_),(4,_),(5,_),(23,_)] ⟨s0,s2,s4,s5,s23,trivial⟩ rfl ?_;clear hs hd s0 s2 s3 s4 s5 s23;intro a hs hd zl;refine wp_seq ?_;have q0:(0:Int)≤(t:Int)+8:=by omega
 have q1:(t:Int)+8≤72:=by omega
 have q2:Int.toNat ((t:Int)+8)=t+8:=by omega
 refine fl2 [.eq 24 _,.eq 25 _,.eq 26 _] 3 hs hd zl
  ⟨sP bq,
   sP bq,
   sP bq,
   trivial⟩ ?_
 clear hs hd zl;intro a w hb hs hd zl hh;replace zl:=lH hh 2 zl;clear hh;replace hG:=hG.after hb;replace hD:=hD.after hb;replace hT:=hT.after hb;replace hR:=hR.after hb;replace hKt:=hKt.after hb;clear hb;refine wn 1 ?_;clear hs hd zl;intro a hs hd zl;clear q0 q1;refine wp_seq ?_;have q3:(t:Int)≤(t:Int)+8:=by omega
 have q4:¬ (72=t):=by omega
 have q5:t+8-t=8:=by omega
 refine fl2 [.eq 27 _,.eq 28 _,.eq 29 _,.eq 30 _,.eq 31 _] 5 hs hd zl
  ⟨sP bq,
   sP bq,
   sP bq,
   sP bq,
   sP bq,
   trivial⟩ ?_
 clear hs hd zl;intro a w hb hs hd zl hh;replace zl:=lH hh 3 zl;replace zl:=lH hh 4 zl;clear hh;replace hG:=hG.after hb;replace hD:=hD.after hb;replace hT:=hT.after hb;replace hR:=hR.after hb;replace hKt:=hKt.after hb;clear hb;show wpList _ _ _ [_] _ _
 refine tail_op rfl (fun K hK=>?_);have q30:=gL zl 1;have q31:=gL zl 0;go_simp;refine(c_put64 T t _ _ _ _ L8 _ hT hL8' (by omega) (by rw[Array.size_setIfInBounds,zs_size];omega) (fun i hi=>⟨0,by rw[Array.getElem?_setIfInBounds_ne (by omega),zs_get (by omega)]⟩)).mono ?_;rintro e w2 ⟨rfl,hg2,hb2⟩;clear q30 q31;refine hK _ _ (tP hs hd zl ?_);clear hK K hs hd zl;intro a hs hd zl;replace hG:=hG.via hg2 hT0;replace hD:=hD.gbfar hg2 hTg;replace hR:=hR.gbfar hg2 hRT.symm;replace hKt:=hKt.gb hg2 (by omega);replace hT:=hb2;rw[← hL8.out]at hT;clear hg2;obtain⟨p,hp⟩:∃p,Is (shaTail m.length) p:=is_self _;have hpl:p.length=t+8:=by rw[← hp.out];exact shaTail_length h1 ht
 have hPB:Bs _ (some ⟨T,0,none⟩) p:=fun i hi=>⟨T,0,rfl,hT.lt,by rw[hT.cell,Nat.zero_add,← hp.out];exact shaTail_at h1 h2 ht (by omega)⟩
 obtain⟨s32,s31,s30,s6,-,-,s0,s2,-,-,-,-⟩:=zl;rw[← hpl]at s6;have hpH:=Is.hid hpl;clear hpl;clear s30 s31 s32;clear q2 q3 q4 q5;refine wp_seq ?_;refine fl2 (F:=[(0,_),(2,_),(6,_)]) [.eq 33 _,.eq 34 _] 2 hs hd ⟨s0,s2,s6,trivial⟩
  ⟨sP bq,
   sP bq,
   trivial⟩ ?_
 clear hs hd s0 s2 s6;intro a w hb hs hd zl hh;replace zl:=lH hh 0 zl;replace zl:=lH hh 1 zl;clear hh;replace hG:=hG.after hb;replace hD:=hD.after hb;replace hR:=hR.after hb;replace hKt:=hKt.after hb;replace hPB:=hPB.after hb;clear hb;show wpList _ _ _ [_] _ _
 refine tail_op rfl (fun K hK=>?_);have q33:=gL zl 1;have q34:=gL zl 0;go_simp;refine(c_Write g 72 m p (some ⟨T,0,none⟩) _ (.inr ⟨_,_,rfl⟩) hD hPB (fun _ e=>hTg (by injection e)) (by have:=hpH.out;omega) hm8 (by rw[← hp.out];exact shaTail_bytes _) (by have:=hpH.out;omega) hKt hg0).mono ?_;rintro e w2 ⟨rfl,hg2,hD2⟩;clear q33 q34;refine hK _ _ (tP hs hd zl ?_);clear hK K hs hd zl;intro a hs hd zl;replace hG:=hG.trans hg2;replace hR:=hR.gbfar hg2 hRg.symm;rw[← hp.out]at hD2;obtain⟨x,⟨hx,-⟩,hg,-⟩:=hD2;have hmod:=padded_mod m;unfold padded at hmod;rw[hmod]at hg;obtain⟨S,hS⟩:∃S,Is (shaBlks (m++shaTail m.length) 0 ((m++shaTail m.length).length / 64) sha0) S:=is_self _;rw[hS.out]at hg;have hU:St32 S:=by rw[← hS.out];exact shaBlks_U32 _ _ _ _ sha0_U32
 obtain⟨LN,hLN⟩:∃LN:Int,Is (((m++shaTail m.length).length:Nat):Int) LN:=is_self _;rw[hLN.out]at hg;replace hg:Blk _ g 188 (dig S x 0 LN):=hg;clear hD hPB hKt hg2 hmod;refine wp_seq ?_;refine wp_seq ?_;have c2:=(hg.cell 72).trans (dig_get_nx S x 0 LN hx);refine fl2 [.eq 36 _,.eq 37 _,.eq 38 _,.eq 39 _] 4 hs hd zl
  ⟨sP bq,
   sP bq,
   sP bq,
   sP bq,
   trivial⟩ ?_
 clear hs hd zl;intro a w hb hs hd zl hh;replace zl:=lH hh 3 zl;clear hh;replace hG:=hG.after hb;replace hg:=hg.after hb;replace hR:=hR.after hb;replace c2:=cell_up hb c2;clear hb;refine wn 1 ?_;clear hs hd zl;intro a hs hd zl;clear c2;refine wp_cond_false (vL zl 0) ?_;refine wp_skip ?_;refine wp_seq ?_;refine wp_region_list ?_;show wpList _ _ _ [_] _ _
 refine tail_op rfl (fun K hK=>?_);go_simp;refine hK _ _ (tP hs hd zl ?_);clear hK K hs hd zl;intro a hs hd zl;obtain⟨D,hDe⟩:∃D,Is w.heap.size D:=is_self _;have hgD:D≠g:=by have:=hg.lt;rw[← hDe.out];omega
 have hRD:D≠R0:=by have:=hR.lt;rw[← hDe.out];omega
 have hD0:w0.heap.size≤D:=by rw[← hDe.out];exact hG.size
 generalize hw1:World.alloc w _=w1;have hDd:Blk w1 D 190 (putX (zs 32) 0 []):=by rw[← hw1,← hDe.out,putX_nil];exact Blk.new w _ _
 have hB1:Below w.heap.size w w1:=by rw[← hw1];exact bz_alloc (bz_refl w) _
 replace hG:=hG.after hB1;replace hg:=hg.after hB1;replace hR:=hR.after hB1;obtain⟨s7,s40,-,-,-,-,s0,s2,-,-⟩:=zl;rw[hDe.out]at s7;clear hw1 hB1 hDe;clear s40;refine wp_seq ?_;have c:=(hg.cell 0).trans (show(dig S x 0 LN)[0]?=some (.int .u32 S.a)from rfl);refine fl2 (F:=[(0,_),(2,_),(7,_)]) [.eq 42 _,.eq 43 _,.eq 44 _,.eq 45 _,.eq 46 _,.eq 47 _] 6 hs hd ⟨s0,s2,s7,trivial⟩
  ⟨sP bq,
   sP bq,
   sP bq,
   sP bq,
   sP bq,
   sP bq,
   trivial⟩ ?_
 clear hs hd s0 s2 s7;intro a w hb hs hd zl hh;replace zl:=lH hh 0 zl;replace zl:=lH hh 5 zl;clear hh;replace hG:=hG.after hb;replace hg:=hg.after hb;replace hR:=hR.after hb;replace hDd:=hDd.after hb;replace c:=cell_up hb c;clear hb;show wpList _ _ _ [_] _ _
 refine tail_op rfl (fun K hK=>?_);have q42:=gL zl 1;have q47:=gL zl 0;go_simp;refine(c_putD (D:=D) (i:=0) (l:=([]:List Int)) (v:=S.a) rfl (by decide) (by have h:=hU;unfold St32 at h;simp only[h]) hDd _ _ _ rfl rfl).mono ?_;rintro e w2 ⟨rfl,hg2,hb2⟩;clear q42 q47;refine hK _ _ (tP hs hd zl ?_);clear hK K hs hd zl;intro a hs hd zl;replace hG:=hG.via hg2 hD0;replace hg:=hg.gbfar hg2 hgD;replace hR:=hR.gbfar hg2 hRD;replace hDd:=hb2;clear hg2;clear c;refine wp_seq ?_;have c:=(hg.cell 1).trans (show(dig S x 0 LN)[1]?=some (.int .u32 S.b)from rfl);refine fl2 [.eq 49 _,.eq 50 _,.eq 51 _,.eq 52 _,.eq 53 _,.eq 54 _] 6 hs hd zl
  ⟨sP bq,
   sP bq,
   sP bq,
   sP bq,
   sP bq,
   sP bq,
   trivial⟩ ?_
 clear hs hd zl;intro a w hb hs hd zl hh;replace zl:=lH hh 0 zl;replace zl:=lH hh 5 zl;clear hh;replace hG:=hG.after hb;replace hg:=hg.after hb;replace hR:=hR.after hb;replace hDd:=hDd.after hb;replace c:=cell_up hb c;clear hb;show wpList _ _ _ [_] _ _
 refine tail_op rfl (fun K hK=>?_);have q49:=gL zl 1;have q54:=gL zl 0;go_simp;refine(c_putD (D:=D) (i:=1) (l:=([]:List Int)++be32 S.a) (v:=S.b) rfl (by decide) (by have h:=hU;unfold St32 at h;simp only[h]) hDd _ _ _ rfl rfl).mono ?_;rintro e w2 ⟨rfl,hg2,hb2⟩;clear q49 q54;refine hK _ _ (tP hs hd zl ?_);clear hK K hs hd zl;intro a hs hd zl;replace hG:=hG.via hg2 hD0;replace hg:=hg.gbfar hg2 hgD;replace hR:=hR.gbfar hg2 hRD;replace hDd:=hb2;clear hg2;clear c;refine wp_seq ?_;have c:=(hg.cell 2).trans (show(dig S x 0 LN)[2]?=some (.int .u32 S.c)from rfl);refine fl2 [.eq 56 _,.eq 57 _,.eq 58 _,.eq 59 _,.eq 60 _,.eq 61 _] 6 hs hd zl
  ⟨sP bq,
   sP bq,
   sP bq,
   sP bq,
   sP bq,
   sP bq,
   trivial⟩ ?_
 clear hs hd zl;intro a w hb hs hd zl hh;replace zl:=lH hh 0 zl;replace zl:=lH hh 5 zl;clear hh;replace hG:=hG.after hb;replace hg:=hg.after hb;replace hR:=hR.after hb;replace hDd:=hDd.after hb;replace c:=cell_up hb c;clear hb;show wpList _ _ _ [_] _ _
 refine tail_op rfl (fun K hK=>?_);have q56:=gL zl 1;have q61:=gL zl 0;go_simp;refine(c_putD (D:=D) (i:=2) (l:=([]:List Int)++be32 S.a++be32 S.b) (v:=S.c) rfl (by decide) (by have h:=hU;unfold St32 at h;simp only[h]) hDd _ _ _ rfl rfl).mono ?_;rintro e w2 ⟨rfl,hg2,hb2⟩;clear q56 q61;refine hK _ _ (tP hs hd zl ?_);clear hK K hs hd zl;intro a hs hd zl;replace hG:=hG.via hg2 hD0;replace hg:=hg.gbfar hg2 hgD;replace hR:=hR.gbfar hg2 hRD;replace hDd:=hb2;clear hg2;clear c;refine wp_seq ?_;have c:=(hg.cell 3).trans (show(dig S x 0 LN)[3]?=some (.int .u32 S.d)from rfl);refine fl2 [.eq 63 _,.eq 64 _,.eq 65 _,.eq 66 _,.eq 67 _,.eq 68 _] 6 hs hd zl
  ⟨sP bq,
   sP bq,
   sP bq,
   sP bq,
   sP bq,
   sP bq,
   trivial⟩ ?_
 clear hs hd zl;intro a w hb hs hd zl hh;replace zl:=lH hh 0 zl;replace zl:=lH hh 5 zl;clear hh;replace hG:=hG.after hb;replace hg:=hg.after hb;replace hR:=hR.after hb;replace hDd:=hDd.after hb;replace c:=cell_up hb c;clear hb;show wpList _ _ _ [_] _ _
 refine tail_op rfl (fun K hK=>?_);have q63:=gL zl 1;have q68:=gL zl 0;go_simp;refine(c_putD (D:=D) (i:=3) (l:=([]:List Int)++be32 S.a++be32 S.b++be32 S.c) (v:=S.d) rfl (by decide) (by have h:=hU;unfold St32 at h;simp only[h]) hDd _ _ _ rfl rfl).mono ?_;rintro e w2 ⟨rfl,hg2,hb2⟩;clear q63 q68;refine hK _ _ (tP hs hd zl ?_);clear hK K hs hd zl;intro a hs hd zl;replace hG:=hG.via hg2 hD0;replace hg:=hg.gbfar hg2 hgD;replace hR:=hR.gbfar hg2 hRD;replace hDd:=hb2;clear hg2;clear c;refine wp_seq ?_;have c:=(hg.cell 4).trans (show(dig S x 0 LN)[4]?=some (.int .u32 S.e)from rfl);refine fl2 [.eq 70 _,.eq 71 _,.eq 72 _,.eq 73 _,.eq 74 _,.eq 75 _] 6 hs hd zl
  ⟨sP bq,
   sP bq,
   sP bq,
   sP bq,
   sP bq,
   sP bq,
   trivial⟩ ?_
 clear hs hd zl;intro a w hb hs hd zl hh;replace zl:=lH hh 0 zl;replace zl:=lH hh 5 zl;clear hh;replace hG:=hG.after hb;replace hg:=hg.after hb;replace hR:=hR.after hb;replace hDd:=hDd.after hb;replace c:=cell_up hb c;clear hb;show wpList _ _ _ [_] _ _
 refine tail_op rfl (fun K hK=>?_);have q70:=gL zl 1;have q75:=gL zl 0;go_simp;refine(c_putD (D:=D) (i:=4) (l:=([]:List Int)++be32 S.a++be32 S.b++be32 S.c++be32 S.d) (v:=S.e) rfl (by decide) (by have h:=hU;unfold St32 at h;simp only[h]) hDd _ _ _ rfl rfl).mono ?_;rintro e w2 ⟨rfl,hg2,hb2⟩;clear q70 q75;refine hK _ _ (tP hs hd zl ?_);clear hK K hs hd zl;intro a hs hd zl;replace hG:=hG.via hg2 hD0;replace hg:=hg.gbfar hg2 hgD;replace hR:=hR.gbfar hg2 hRD;replace hDd:=hb2;clear hg2;clear c;refine wp_seq ?_;have c:=(hg.cell 5).trans (show(dig S x 0 LN)[5]?=some (.int .u32 S.f)from rfl);refine fl2 [.eq 77 _,.eq 78 _,.eq 79 _,.eq 80 _,.eq 81 _,.eq 82 _] 6 hs hd zl
  ⟨sP bq,
   sP bq,
   sP bq,
   sP bq,
   sP bq,
   sP bq,
   trivial⟩ ?_
 clear hs hd zl;intro a w hb hs hd zl hh;replace zl:=lH hh 0 zl;replace zl:=lH hh 5 zl;clear hh;replace hG:=hG.after hb;replace hg:=hg.after hb;replace hR:=hR.after hb;replace hDd:=hDd.after hb;replace c:=cell_up hb c;clear hb;show wpList _ _ _ [_] _ _
 refine tail_op rfl (fun K hK=>?_);have q77:=gL zl 1;have q82:=gL zl 0;go_simp;refine(c_putD (D:=D) (i:=5) (l:=([]:List Int)++be32 S.a++be32 S.b++be32 S.c++be32 S.d++be32 S.e) (v:=S.f) rfl (by decide) (by have h:=hU;unfold St32 at h;simp only[h]) hDd _ _ _ rfl rfl).mono ?_;rintro e w2 ⟨rfl,hg2,hb2⟩;clear q77 q82;refine hK _ _ (tP hs hd zl ?_);clear hK K hs hd zl;intro a hs hd zl;replace hG:=hG.via hg2 hD0;replace hg:=hg.gbfar hg2 hgD;replace hR:=hR.gbfar hg2 hRD;replace hDd:=hb2;clear hg2;clear c;refine wp_seq ?_;have c:=(hg.cell 6).trans (show(dig S x 0 LN)[6]?=some (.int .u32 S.g)from rfl);refine fl2 [.eq 84 _,.eq 85 _,.eq 86 _,.eq 87 _,.eq 88 _,.eq 89 _] 6 hs hd zl
  ⟨sP bq,
   sP bq,
   sP bq,
   sP bq,
   sP bq,
   sP bq,
   trivial⟩ ?_
 clear hs hd zl;intro a w hb hs hd zl hh;replace zl:=lH hh 0 zl;replace zl:=lH hh 5 zl;clear hh;replace hG:=hG.after hb;replace hg:=hg.after hb;replace hR:=hR.after hb;replace hDd:=hDd.after hb;replace c:=cell_up hb c;clear hb;show wpList _ _ _ [_] _ _
 refine tail_op rfl (fun K hK=>?_);have q84:=gL zl 1;have q89:=gL zl 0;go_simp;refine(c_putD (D:=D) (i:=6) (l:=([]:List Int)++be32 S.a++be32 S.b++be32 S.c++be32 S.d++be32 S.e++be32 S.f) (v:=S.g) rfl (by decide) (by have h:=hU;unfold St32 at h;simp only[h]) hDd _ _ _ rfl rfl).mono ?_;rintro e w2 ⟨rfl,hg2,hb2⟩;clear q84 q89;refine hK _ _ (tP hs hd zl ?_);clear hK K hs hd zl;intro a hs hd zl;replace hG:=hG.via hg2 hD0;replace hg:=hg.gbfar hg2 hgD;replace hR:=hR.gbfar hg2 hRD;replace hDd:=hb2;clear hg2;clear c;refine wp_seq ?_;refine wp_seq ?_;have c4:=(hg.cell 74).trans (dig_get_224 S x 0 LN hx);refine fl2 [.eq 91 _,.eq 92 _,.eq 93 _,.eq 94 _] 4 hs hd zl
  ⟨sP bq,
   sP bq,
   sP bq,
   sP bq,
   trivial⟩ ?_
 clear hs hd zl;intro a w hb hs hd zl hh;replace zl:=lH hh 3 zl;clear hh;replace hG:=hG.after hb;replace hg:=hg.after hb;replace hR:=hR.after hb;replace hDd:=hDd.after hb;replace c4:=cell_up hb c4;clear hb;refine wn 1 ?_;clear hs hd zl;intro a hs hd zl;clear c4;refine wp_cond_true (vL zl 0) ?_;have c:=(hg.cell 7).trans (show(dig S x 0 LN)[7]?=some (.int .u32 S.h)from rfl);refine fl2 [.eq 96 _,.eq 97 _,.eq 98 _,.eq 99 _,.eq 100 _,.eq 101 _] 6 hs hd zl
  ⟨sP bq,
   sP bq,
   sP bq,
   sP bq,
   sP bq,
   sP bq,
   trivial⟩ ?_
 clear hs hd zl;intro a w hb hs hd zl hh;replace zl:=lH hh 0 zl;replace zl:=lH hh 5 zl;clear hh;replace hG:=hG.after hb;replace hg:=hg.after hb;replace hR:=hR.after hb;replace hDd:=hDd.after hb;replace c:=cell_up hb c;clear hb;show wpList _ _ _ [_] _ _
 refine tail_op rfl (fun K hK=>?_);have q96:=gL zl 1;have q101:=gL zl 0;go_simp;refine(c_putD (D:=D) (i:=7) (l:=([]:List Int)++be32 S.a++be32 S.b++be32 S.c++be32 S.d++be32 S.e++be32 S.f++be32 S.g) (v:=S.h) rfl (by decide) (by have h:=hU;unfold St32 at h;simp only[h]) hDd _ _ _ rfl rfl).mono ?_;rintro e w2 ⟨rfl,hg2,hb2⟩;clear q96 q101;refine hK _ _ (tP hs hd zl ?_);clear hK K hs hd zl;intro a hs hd zl;replace hG:=hG.via hg2 hD0;replace hg:=hg.gbfar hg2 hgD;replace hR:=hR.gbfar hg2 hRD;replace hDd:=hb2;clear hg2;clear c;refine wp_seq ?_;refine wp_region_list ?_;have s7:=vL zl 28;refine wpList_load_part rfl 190 (.tmp 7) rfl D 0 s7 190 _ 32 _ hDd (by rw[putX_size _ _ _ (by rw[zs_size];exact Nat.le_refl 32),zs_size];omega) rfl rfl (by kernel_rfl) ?_;rw[putX_ext _ rfl];refine tP hs hd zl ?_;clear hs hd zl s7;intro a hs hd zl;have s2:=vL zl 28;have s103:=vL zl 0;refine wpList_store_row rfl 190 (.tmp 2) (.tmp 103) rfl R0 s2 _ s103 190 (zs 32) hR (by rw[zs_size];rfl) (by kernel_rfl) (one_u8 _) ?_;show Code.wp _ _ _ _ _
 refine wp_ret ?_;have e:shaOut S=sha m:=by unfold sha padded;rw[hS.out]
 refine end_row rfl R0 s2 hd.out 190 _ _ (hR.setRow _) rfl rfl (by kernel_rfl) ?_;have:=hQ _ (hG.via (gb_setRow _ R0 ((shaOut S).map (Value.int .u8)).toArray) hR0) (((hg.setRow_far hRg.symm _).cell 74).trans (dig_get_224 S x 0 LN hx));rw[← e]at this;exact this
theorem c_checkSum(g:Nat)(m:List Int)(w:World)(hD:Dst w g m)(hm8:Bytes m)(hlen:m.length≤900000000000)(hKt:KTab w 1)(hg0:g≠1):
  Calls Tryz.prog 90 #[.pointer (some ⟨g,0,none⟩)] w fun e w'=>e=.returned (arr32 (sha m))∧w.grownBy w' (some g)∧w'.cell? ⟨g,74,none⟩=some (.bool false):=by
 have c3:w.cell? ⟨g,73,none⟩=some (.int .u64 ((m.length:Nat):Int)):=by obtain⟨x,⟨hx,-⟩,hg,hb⟩:=hD;exact(hg.cell 73).trans (dig_get_ln _ _ _ _ hx)
 have hKlt:1<w.heap.size:=World.block_lt_of_cell? w _ (hKt 0 (by decide))
 suffices h:∀w0,GB w0 w g→g<w0.heap.size→1<w0.heap.size→Calls Tryz.prog 90 #[.pointer (some ⟨g,0,none⟩)] w fun e w'=>e=.returned (arr32 (sha m))∧GB w0 w' g∧w'.cell? ⟨g,74,none⟩=some (.bool false)from h w (GB.refl w g) hD.lt hKlt
 clear hKlt;intro w0 hG hgw hKw;refine enter_abs Tryz.func90 rfl 104 rfl (by simp) ?_;intro a hs hd hargs;have s0:=hargs 0 _ rfl;clear hargs;refine wp_seq ?_;refine wp_region_list ?_;show wpList _ _ _ [_] _ _
 refine tail_op rfl (fun K hK=>?_);go_simp;refine hK _ _ ?_;clear hK K;refine act_put (d:=2) _ hs hd (by decide) [(0,_)] ⟨s0,trivial⟩ rfl ?_;clear hs hd s0;intro a hs hd zl;obtain⟨R0,hE⟩:∃B,Is w.heap.size B:=is_self _;have R00:w0.heap.size≤R0:=by rw[← hE.out];exact hG.size
 generalize hw1:World.alloc w _=w1;have hR:Blk w1 R0 190 (zs 32):=by rw[← hw1,← hE.out];exact Blk.new w _ _
 have hB1:Below w.heap.size w w1:=by rw[← hw1];exact bz_alloc (bz_refl w) _
 replace hG:=hG.after hB1;replace hD:=hD.after hB1;replace hKt:=hKt.after hB1;obtain⟨s2,s0,-⟩:=zl;rw[hE.out]at s2;replace c3:=cell_up hB1 c3;clear hw1 hB1 hE;refine wp_seq ?_;refine fl2 (F:=[(0,_),(2,_)]) [.eq 8 _,.eq 9 _,.eq 10 _,.eq 11 _] 4 hs hd ⟨s0,s2,trivial⟩
  ⟨sP bq,
   sP bq,
   sP bq,
   sP bq,
   trivial⟩ ?_
 clear hs hd s0 s2;intro a w hb hs hd zl hh;replace zl:=lH hh 3 zl;clear hh;replace hG:=hG.after hb;replace hD:=hD.after hb;replace hKt:=hKt.after hb;replace hR:=hR.after hb;replace c3:=cell_up hb c3;clear hb;refine wn 1 ?_;clear hs hd zl;intro a hs hd zl;clear c3;refine wp_seq ?_;refine wp_region_list ?_;show wpList _ _ _ [_] _ _
 refine tail_op rfl (fun K hK=>?_);go_simp;refine hK _ _ (tP hs hd zl ?_);clear hK K hs hd zl;intro a hs hd zl;obtain⟨T,hE⟩:∃B,Is w.heap.size B:=is_self _;have hRT:R0≠T:=by have:=hR.lt;rw[← hE.out];omega
 have T0:w0.heap.size≤T:=by rw[← hE.out];exact hG.size
 generalize hw1:World.alloc w _=w1;have hT:Blk w1 T 196 (zs 72):=by rw[← hw1,← hE.out];exact Blk.new w _ _
 have hB1:Below w.heap.size w w1:=by rw[← hw1];exact bz_alloc (bz_refl w) _
 replace hG:=hG.after hB1;replace hD:=hD.after hB1;replace hKt:=hKt.after hB1;obtain⟨s4,s3,-,s0,s2,-⟩:=zl;rw[hE.out]at s4;replace hR:=hR.after hB1;clear hw1 hB1 hE;refine wp_seq ?_;refine fl2 (F:=[(0,_),(2,_),(3,_),(4,_)]) [.eq 12 _] 1 hs hd ⟨s0,s2,s3,s4,trivial⟩
  ⟨sP bq,
   trivial⟩ ?_
 clear hs hd s0 s2 s3 s4;intro a w hb hs hd zl hh;replace zl:=lH hh 0 zl;clear hh;replace hG:=hG.after hb;replace hD:=hD.after hb;replace hKt:=hKt.after hb;replace hR:=hR.after hb;replace hT:=hT.after hb;clear hb;show wpList _ _ _ [_] _ _
 refine tail_op rfl (fun K hK=>?_);have q12:=gL zl 0;have hfr:=hT.free 0;have hold:=(hT.cell 0).trans (zs_get (by omega));go_simp;clear hfr hold;clear q12;refine hK _ _ ?_;clear hK K;change wpList _ _ _ _ a _;replace hG:=hG.setv T0 0 (.int .u8 128);replace hD:=hD.gbfar (gb1 w T 0 (.int .u8 128)) (by omega);replace hKt:=hKt.gb (gb1 w T 0 (.int .u8 128)) (by omega);replace hR:=hR.gbfar (gb1 w T 0 (.int .u8 128)) hRT.symm;replace hT:=hT.set_ 0 (.int .u8 128);revert hG hD hKt hR hT;generalize World.setCell _ _ _=w;intro hG hD hKt hR hT;refine wn 1 ?_;clear hs hd zl;intro a hs hd zl;refine wp_seq ?_;refine wp_seq ?_;obtain⟨r,hr⟩:∃r,Is (m.length % 64) r:=is_self _;have hrv:=hr.out;have hmt:((m.length:Nat):Int).tmod 64=(r:Int):=by rw[Int.tmod_eq_emod_of_nonneg (by omega)];omega
 have hrH:=Is.hid hrv;by_cases hc:r<56
 ·have hl1:decide (r<56)=true:=decide_eq_true (by omega);have hl2:decide ((r:Int)<56)=true:=decide_eq_true (by omega);obtain⟨t,htv⟩:∃t,Is (56-r) t:=is_self _;have htv':=htv.out;have h1:1≤t:=by omega
  have h2:t≤64:=by omega
  have ht:shaZeros m.length=t-1:=by unfold shaZeros;omega
  have hw:IntKind.u64.wrap (56-(r:Int))=(t:Int):=by rw[IntKind.wrap_u64];omega
  clear htv';refine fl2 [.eq 13 _,.eq 14 _] 2 hs hd zl
   ⟨sP bq,
    sP bq,
    trivial⟩ ?_
  clear hs hd zl;intro a w hb hs hd zl hh;replace zl:=lH hh 1 zl;clear hh;replace hG:=hG.after hb;replace hD:=hD.after hb;replace hKt:=hKt.after hb;replace hR:=hR.after hb;replace hT:=hT.after hb;clear hb;refine wn 1 ?_;clear hs hd zl;intro a hs hd zl;refine wp_cond_true (vL zl 0) ?_;refine fl2 [.eq 16 _,.eq 17 _,.eq 18 _] 3 hs hd zl
   ⟨sP bq,
    sP bq,
    sP bq,
    trivial⟩ ?_
  clear hs hd zl;intro a w hb hs hd zl hh;replace zl:=lH hh 2 zl;clear hh;replace hG:=hG.after hb;replace hD:=hD.after hb;replace hKt:=hKt.after hb;replace hR:=hR.after hb;replace hT:=hT.after hb;clear hb;show wpList _ _ _ [_] _ _
  refine tail_op rfl (fun K hK=>?_);have q18:=gL zl 0;go_simp;clear q18;refine hK _ _ ?_;clear hK K;obtain⟨s18,-,-,-,-,s0,s2,s3,s4,-⟩:=zl;refine act_put (d:=5) _ hs hd (by decide) [(0,_),(2,_),(3,_),(4,_),(18,_)] ⟨s0,s2,s3,s4,s18,trivial⟩ rfl ?_;clear hs hd s0 s2 s3 s4 s18;intro a hs hd zl;obtain⟨s5,s0,s2,s3,s4,-,-⟩:=zl;exact cs_rest a w hs hd s0 s2 s3 s4 s5 h1 h2 ht hm8 hlen hG hD hT hR hKt hg0 T0 R00 hgw hKw hRT (fun w' h h2=>⟨rfl,h,h2⟩)
 ·have hl1:decide (r<56)=false:=decide_eq_false (by omega);have hl2:decide ((r:Int)<56)=false:=decide_eq_false (by omega);obtain⟨t,htv⟩:∃t,Is (120-r) t:=is_self _;have htv':=htv.out;have h1:1≤t:=by omega
  have h2:t≤64:=by omega
  have ht:shaZeros m.length=t-1:=by unfold shaZeros;omega
  have hw:IntKind.u64.wrap (120-(r:Int))=(t:Int):=by rw[IntKind.wrap_u64];omega
  clear htv';refine fl2 [.eq 13 _,.eq 14 _] 2 hs hd zl
   ⟨sP bq,
    sP bq,
    trivial⟩ ?_
  clear hs hd zl;intro a w hb hs hd zl hh;replace zl:=lH hh 1 zl;clear hh;replace hG:=hG.after hb;replace hD:=hD.after hb;replace hKt:=hKt.after hb;replace hR:=hR.after hb;replace hT:=hT.after hb;clear hb;refine wn 1 ?_;clear hs hd zl;intro a hs hd zl;refine wp_cond_false (vL zl 0) ?_;refine fl2 [.eq 19 _,.eq 20 _,.eq 21 _] 3 hs hd zl
   ⟨sP bq,
    sP bq,
    sP bq,
    trivial⟩ ?_
  clear hs hd zl;intro a w hb hs hd zl hh;replace zl:=lH hh 2 zl;clear hh;replace hG:=hG.after hb;replace hD:=hD.after hb;replace hKt:=hKt.after hb;replace hR:=hR.after hb;replace hT:=hT.after hb;clear hb;show wpList _ _ _ [_] _ _
  refine tail_op rfl (fun K hK=>?_);have q21:=gL zl 0;go_simp;clear q21;refine hK _ _ ?_;clear hK K;obtain⟨s21,-,-,-,-,s0,s2,s3,s4,-⟩:=zl;refine act_put (d:=5) _ hs hd (by decide) [(0,_),(2,_),(3,_),(4,_),(21,_)] ⟨s0,s2,s3,s4,s21,trivial⟩ rfl ?_;clear hs hd s0 s2 s3 s4 s21;intro a hs hd zl;obtain⟨s5,s0,s2,s3,s4,-,-⟩:=zl;exact cs_rest a w hs hd s0 s2 s3 s4 s5 h1 h2 ht hm8 hlen hG hD hT hR hKt hg0 T0 R00 hgw hKw hRT (fun w' h h2=>⟨rfl,h,h2⟩)
section
variable{P:Program}{o:Oper}{a:Act}{w:World}{Q:Exit→Act→World→Prop}{K:Act→World→Prop}
theorem op_load_row(ty:TypeId)(x:Operand)(ho:o.op=.load ty x)(g:Nat)(hx:a.eval x=.pointer (some ⟨g,0,none⟩))(t:TypeId)(cur:Array Value)(d:TypeDesc)(hg:Blk w g t cur)
  (hu:P.underlying ty=some d)(hd:(match d with| .struct _| .array _ _=>true|_=>false)=true)(hi:(P.info? ty).map (·.size)=some cur.size)
  (h:K (a.put o.dst (.agg cur)) w):o.wp P a w K Q:=by
 unfold Oper.wp execOp;have:=run_load_part (P:=P) ty g 0 t cur cur.size d hg (by omega) hu hd hi;rw[Nat.zero_add,Array.extract_size]at this;simp only[ho,hx,Instr.loadAt,Instr.sureAddr,Sem.run_bind,Sem.run_pure,Result.andThen_ok,this];exact h
theorem op_store_row(ty:TypeId)(x y:Operand)(ho:o.op=.store ty x y)(g:Nat)(hx:a.eval x=.pointer (some ⟨g,0,none⟩))(cs:Array Value)(hy:a.eval y=.agg cs)
  (t:TypeId)(cur:Array Value)(hg:Blk w g t cur)(hs:cs.size=cur.size)(hi:(P.info? ty).map (·.size)=some cs.size)(h1:∀v∈cs.toList,v.oneCell'=true)
  (h:K (a.put o.dst undef) (w.setRow g cs)):o.wp P a w K Q:=by
 unfold Oper.wp execOp;have:=run_store_part (P:=P) ty g 0 t cur cs hg (by omega) hi h1;rw[putAt_whole cur cs hs]at this;simp only[ho,hx,hy,Instr.storeAt,Instr.sureAddr,Sem.run_bind,Sem.run_pure,Result.andThen_ok,this];exact h
end
theorem op_app_u8{o:Oper}{a:Act}{w:World}{Q:Exit→Act→World→Prop}{K:Act→World→Prop}(s x:Operand)(ho:o.op=.call {callee:=.builtin .append,args:=#[s,x],argTypes:=#[32,32]})
  {base:Nat}{A A2:Option Addr}{c c2:Nat}{l l2:List Int}(hs:a.eval s=.slice A l.length c)(hx:a.eval x=.slice A2 l2.length c2)(hown:OwnB base w A c l)(hr:Bs w A2 l2)(hlen:l.length+l2.length≤100000000000000)(hbase:base≤w.heap.size)
  (h:∀(l':List Int) (A':Option Addr) (c':Nat) (w':World),Is l' (l++l2)→l'.length≤l.length+l2.length→OwnB base w' A' c' l'→Below base w w'→w.grownBy w' (blkOf A)→(blkOf A'=blkOf A∨blkOf A'=some w.heap.size)→K (a.put o.dst (.slice A' l'.length c')) w'):o.wp Tryz.prog a w K Q:=by
 obtain⟨A',c',w',hrun,h2,h3,h4⟩:=run_app_u8 w o.type (c2:=c2) hown hr hlen hbase;unfold Oper.wp execOp;simp only[ho,resolve,invoke,builtin,Sem.run_bind,Sem.run_pure,Result.andThen_ok,List.map_toArray,List.map_cons,List.map_nil,hs,hx,hrun];exact h _ A' c' w' rfl (by simp) h2 (hown.below hbase h3) h3 h4
def Fm(A:Option Addr)(n c:Nat):Prop:=(A=none∧c=0∧n=0)∨∃b o,A=some ⟨b,o,none⟩
def ReadB(w:World)(l:List Int)(e:Ending)(w':World):Prop:=
 ∃l' A c,Is l' l∧e=.returned (.slice A l'.length c)∧Fm A l'.length c∧l'.length≤c∧Bs w' A l'∧(∀k,blkOf A=some k→w.heap.size≤k∧k<w'.heap.size)∧Below w.heap.size w w'
theorem ReadB.mk'{w w':World}{l l':List Int}{A:Option Addr}{c:Nat}(hl:l'=l)(hf:Fm A l'.length c)(hc:l'.length≤c)(hb:Bs w' A l')(hn:∀k,blkOf A=some k→w.heap.size≤k∧k<w'.heap.size)(h:Below w.heap.size w w'):ReadB w l (.returned (.slice A l'.length c)) w':=
 ⟨l',A,c,hl,rfl,hf,hc,hb,hn,h⟩
theorem OwnB.fm{base:Nat}{w:World}{A:Option Addr}{c:Nat}{l:List Int}(h:OwnB base w A c l):Fm A l.length c:=by
 rcases h.form with⟨h1,h2,h3⟩|⟨g,cur,h1,_⟩
 ·exact .inl ⟨h1,h2,by rw[h3];rfl⟩
 ·exact .inr ⟨g,0,h1⟩
theorem OutB.read{w w':World}{l:List Int}{e:Ending}(h:OutB w l e w'):ReadB w l e w':=by
 obtain⟨l',A,c,hl,he,ho,hb⟩:=h;exact⟨l',A,c,hl,he,ho.fm,ho.cap,ho.bs,fun k hk=>ho.blk_ge k hk,hb⟩
theorem Fm.arg{A:Option Addr}{p:List Int}{c:Nat}(h:Fm A p.length c):(A=none∧c=0∧Is p [])∨∃b o,A=some ⟨b,o,none⟩:=by
 rcases h with⟨h1,h2,h3⟩|h
 ·exact .inl ⟨h1,h2,List.eq_nil_of_length_eq_zero h3⟩
 ·exact .inr h
theorem bs_u8s{w:World}{g:Nat}{t:TypeId}{l:List Int}(h:Blk w g t (l.map (Value.int .u8)).toArray):Bs w (some ⟨g,0,none⟩) l:=fun i hi=>⟨g,0,rfl,h.lt,by
 rw[h.cell,Nat.zero_add,List.getElem?_toArray,List.getElem?_map,List.getD_eq_getElem?_getD,List.getElem?_eq_getElem hi];rfl⟩
def BsAt(B:Nat)(l:List Int)(v:Value)(w:World):Prop:=
 ∃l' A c,Is l' l∧v=.slice A l'.length c∧Fm A l'.length c∧l'.length≤c∧Bs w A l'∧∀k,blkOf A=some k→B≤k∧k<w.heap.size
theorem BsAt.after{B:Nat}{l:List Int}{v:Value}{w w':World}(h:BsAt B l v w)(hb:Below w.heap.size w w'):BsAt B l v w':=by
 obtain⟨l',A,c,h1,h2,h3,h4,h5,h6⟩:=h;exact⟨l',A,c,h1,h2,h3,h4,h5.after hb,fun k hk=>⟨(h6 k hk).1,Nat.lt_of_lt_of_le (h6 k hk).2 hb.size⟩⟩
def FItem.bs(t B:Nat)(l:List Int):FItem:={reads:=[t],fact:=fun vs w=>∃v,vs=[v]∧BsAt B l v w,keeps:=fun _ _ _ hb ⟨v,h1,h2⟩=>⟨v,h1,h2.after hb⟩}
theorem FItem.bs_holds{t B:Nat}{l:List Int}{a:Act}{w:World}:(FItem.bs t B l).holds a w↔BsAt B l (a.tmps.getD t undef) w:=by
 constructor
 ·rintro⟨v,h1,h2⟩;injection h1 with h1;have h1:a.tmps.getD t undef=v:=h1
  rwa [h1]
 ·exact fun h=>⟨_,rfl,h⟩
theorem bs_put{a:Act}{d B:Nat}{l:List Int}{v:Value}{w:World}{sz:Nat}(hs:SzIs a sz)(hd:d<sz)(h:BsAt B l v w):(FItem.bs d B l).holds (a.put (some d) v) w:=FItem.bs_holds.2 (by rw[put_self a d v (by rw[hs.out];exact hd)];exact h)
theorem ReadB.at_{w w':World}{l:List Int}{e:Ending}(h:ReadB w l e w'){B:Nat}(hB:B≤w.heap.size):∃v,e=.returned v∧BsAt B l v w'∧Below w.heap.size w w':=by
 obtain⟨l',A,c,h1,h2,h3,h4,h5,h6,h7⟩:=h;exact⟨_,h2,⟨l',A,c,h1,rfl,h3,h4,h5,fun k hk=>⟨Nat.le_trans hB (h6 k hk).1,(h6 k hk).2⟩⟩,h7⟩
theorem op_copy_32{o:Oper}{a:Act}{w:World}{K:Act→World→Prop}{Q:Exit→Act→World→Prop}(d q:Operand)(ho:o.op=.call {callee:=.builtin .copy,args:=#[d,q],argTypes:=#[32,32]})
  {D dc:Nat}{A:Option Addr}{c:Nat}{l:List Int}(hdv:a.eval d=.slice (some ⟨D,0,none⟩) 32 dc)(hqv:a.eval q=.slice A l.length c)(hg:Blk w D 190 (zs 32))(hn:l.length=32)(hl:Bs w A l)
  (h:∀w',w.grownBy w' (some D)→Blk w' D 190 (l.map (Value.int .u8)).toArray→K (a.put o.dst (.int .i64 32)) w'):o.wp Tryz.prog a w K Q:=by
 obtain⟨b,o',rfl,hb,hc⟩:=hl.at_ (by omega);have hlen:(l.map (Value.int .u8)).length=Nat.min l.length 32:=by rw[List.length_map,hn];rfl
 have hr:=run_copy_row (P:=Tryz.prog) w 32 32 o.type 5 D 0 32 dc ⟨b,o',none⟩ l.length c _ 190 (l.map (Value.int .u8)) Tryz.underlying32 u8_size hg hlen
   (by
    intro j v hv;rw[List.getElem?_map]at hv
    cases hlj:l[j]? with
    |none=>rw[hlj]at hv;cases hv
    |some y=>
     rw[hlj]at hv;have hjl:j<l.length:=(List.getElem?_eq_some_iff.1 hlj).1;have hadd:(⟨b,o',none⟩:Addr).add j=⟨b,o'+j,none⟩:=by unfold Addr.add;split <;> simp_all
     rw[hadd,hc j hjl,List.getD_eq_getElem?_getD,hlj];simpa using hv)
   (by rw[hlen,zs_size,hn];decide) (u8_cells _)
 have he:((zs 32).toList.take 0++l.map (Value.int .u8)++(zs 32).toList.drop (0+(l.map (Value.int .u8)).length)).toArray=(l.map (Value.int .u8)).toArray:=by
  rw[List.length_map,hn];simp[zs]
 rw[he]at hr;unfold Oper.wp execOp;simp only[ho,resolve,invoke,builtin,Sem.run_bind,Sem.run_pure,Result.andThen_ok,List.map_toArray,List.map_cons,List.map_nil,hdv,hqv,hr];rw[hlen,hn];exact h _ (gb_setRow _ _ _) (hg.setRow _)
theorem Bs.far{w:World}{A:Option Addr}{p:List Int}{B:Nat}(h:Bs w A p)(hB:w.heap.size≤B):Far A p (some B):=fun hx e=>by
 obtain⟨k,hk,hlt⟩:=h.blk hx;rw[hk]at e;injection e with e;omega
theorem dig_zero:(dig ⟨0,0,0,0,0,0,0,0⟩ (zs 64) 0 0).size=75:=by rw[dig_size,zs_size]
theorem one_dig(s:ShaSt)(x:Array Value)(nx ln:Int)(hx:∀v∈x.toList,v.oneCell'=true):∀v∈(dig s x nx ln).toList,v.oneCell'=true:=by
 intro v hv;unfold dig at hv;simp only[List.toList_toArray,List.mem_cons,List.mem_append,List.not_mem_nil,or_false]at hv;rcases hv with rfl|rfl|rfl|rfl|rfl|rfl|rfl|rfl|hv|rfl|rfl|rfl <;> first|rfl|exact hx v hv
theorem one_zs(n:Nat):One (zs n):=fun v hv=>by
 unfold zs at hv;rw[List.toList_toArray]at hv;rw[List.eq_of_mem_replicate hv];rfl
def DZ:Array Value:=dig ⟨0,0,0,0,0,0,0,0⟩ (zs 64) 0 0
theorem Dst.set{w:World}{g:Nat}{m:List Int}{x:Array Value}(hx:x.size=64)(h1:One x)(hg:Blk w g 188 (dig (shaBlks m 0 (m.length / 64) sha0) x ((m.length % 64:Nat):Int) ((m.length:Nat):Int)))(hb:∀j,j<m.length % 64→x[j]?=some (.int .u8 (m.getD (64*(m.length / 64)+j) 0))):Dst w g m:=⟨x,⟨hx,h1⟩,hg,hb⟩
theorem shaN(m:List Int):(sha m).length=32:=rfl
theorem c_New(w:World):
  Calls Tryz.prog 78 #[] w fun e w'=>∃B,e=.returned (.pointer (some ⟨B,0,none⟩))∧w.heap.size≤B∧Below w.heap.size w w'∧Dst w' B []:=by
 refine enter_abs Tryz.func78 rfl 6 rfl (by simp) ?_;intro a hs hd hargs;clear hargs;have hB:=bz_refl w;refine wp_seq ?_;refine wp_region_list ?_;show wpList _ _ _ [_] _ _
 refine tail_op rfl (fun K hK=>?_);go_simp;refine hK _ _ ?_;clear hK K;refine act_put (d:=0) _ hs hd (by decide) [] trivial rfl ?_;clear hs hd;intro a hs hd zl;refine wp_seq ?_;refine wp_region_list ?_;show wpList _ _ _ [_,_] _ _
 refine tail_op rfl (fun K hK=>?_);go_simp;refine hK _ _ (tP hs hd zl ?_);clear hK K hs hd zl;intro a hs hd zl;obtain⟨B,hE⟩:∃B,Is w.heap.size B:=is_self _;have BB:=Nat.le_trans hB.size (Nat.le_of_eq hE.out);generalize hw1:World.alloc w _=w1;have hN:Blk w1 B 188 (dig ⟨0,0,0,0,0,0,0,0⟩ (zs 64) 0 0):=by rw[← hw1,← hE.out];exact Blk.new w _ _
 have hB1:Below w.heap.size w w1:=by rw[← hw1];exact bz_alloc (bz_refl w) _
 replace hB:=bz_then hB hB1;obtain⟨s2,-,-⟩:=zl;rw[hE.out]at s2;clear hw1 hB1 hE;refine tail_op rfl (fun K hK=>?_);have q2:=gd s2;go_simp;clear q2;refine hK _ _ ?_;clear hK K;refine act_put (d:=1) _ hs hd (by decide) [(2,_)] ⟨s2,trivial⟩ rfl ?_;clear hs hd s2;intro a hs hd zl;refine wp_seq ?_;refine fl2 [.eq 3 _] 1 hs hd zl
  ⟨sP bq,
   trivial⟩ ?_
 clear hs hd zl;intro a w hb hs hd zl hh;replace zl:=lH hh 0 zl;clear hh;replace hN:=hN.after hb;replace hB:=bz_then hB hb;clear hb;show wpList _ _ _ [_] _ _
 refine tail_op rfl (fun K hK=>?_);have q3:=gL zl 0;go_simp;refine(c_Reset B _ (zs 64) 0 0 _ hN (zs_size 64) (one_zs 64)).mono ?_;rintro e w2 ⟨rfl,hg2,hD2⟩;clear q3;refine hK _ _ (tP hs hd zl ?_);clear hK K hs hd zl;intro a hs hd zl;replace hB:=GB.below2 hB hg2 BB;clear hg2 hN;refine wp_seq ?_;refine fl2 [.eq 5 _] 1 hs hd zl
  ⟨sP bq,
   trivial⟩ ?_
 clear hs hd zl;intro a w hb hs hd zl hh;replace zl:=lH hh 0 zl;clear hh;replace hD2:=hD2.after hb;replace hB:=bz_then hB hb;clear hb;refine wn 1 ?_;clear hs hd zl;intro a hs hd zl;refine wp_ret ?_;exact end_tmp rfl hd (vL zl 0) ⟨B,rfl,BB,hB,hD2⟩
theorem c_DSum(g:Nat)(m:List Int)(w:World)(hD:Dst w g m)(hm8:Bytes m)(hlen:m.length≤900000000000)(hKt:KTab w 1)(h0:1<w.heap.size):
  Calls Tryz.prog 80 #[.pointer (some ⟨g,0,none⟩),.slice none 0 0] w (OutB w (sha m)):=by
 refine enter_abs Tryz.func80 rfl 19 rfl (by simp) ?_;intro a hs hd hargs;have s0:=hargs 0 _ rfl;have s1:=hargs 1 _ rfl;clear hargs;have hB:=bz_refl w;obtain⟨x,⟨hx,hx1⟩,hg,hb⟩:=hD;refine wp_seq ?_;refine wp_region_list ?_;show wpList _ _ _ [_] _ _
 refine tail_op rfl (fun K hK=>?_);go_simp;refine hK _ _ ?_;clear hK K;refine act_put (d:=4) _ hs hd (by decide) [(0,_),(1,_)] ⟨s0,s1,trivial⟩ rfl ?_;clear hs hd s0 s1;intro a hs hd zl;refine wp_seq ?_;refine fl2 [.eq 7 _,.eq 8 _] 2 hs hd zl
  ⟨sP bq,
   sP bq,
   trivial⟩ ?_
 clear hs hd zl;intro a w hb hs hd zl hh;replace zl:=lH hh 1 zl;clear hh;replace hg:=hg.after hb;replace hKt:=hKt.after hb;replace hB:=bz_then hB hb;clear hb;show wpList _ _ _ [_,_,_] _ _
 refine tail_op rfl (fun K hK=>?_);have q8:=gL zl 0;have s8:=vL zl 0;refine op_load_row 188 (.tmp 8) rfl g s8 _ _ _ hg rfl rfl (by rw[dig_size,hx];kernel_rfl) ?_;clear q8;refine hK _ _ (tP hs hd zl ?_);clear hK K hs hd zl s8;intro a hs hd zl;refine tail_op rfl (fun K hK=>?_);go_simp;refine hK _ _ (tP hs hd zl ?_);clear hK K hs hd zl;intro a hs hd zl;obtain⟨C,hE⟩:∃B,Is w.heap.size B:=is_self _;have hC0:C≠1:=by have:=hB.size;rw[← hE.out];omega
 have CB:=Nat.le_trans hB.size (Nat.le_of_eq hE.out);generalize hw1:World.alloc w _=w1;have hC:Blk w1 C 188 (dig ⟨0,0,0,0,0,0,0,0⟩ (zs 64) 0 0):=by rw[← hw1,← hE.out];exact Blk.new w _ _
 have hB1:Below w.heap.size w w1:=by rw[← hw1];exact bz_alloc (bz_refl w) _
 replace hB:=bz_then hB hB1;replace hKt:=hKt.after hB1;obtain⟨s5,s9,s8,-,-,s1,-⟩:=zl;rw[hE.out]at s5;clear hw1 hB1 hE;refine tail_op rfl (fun K hK=>?_);have q5:=gd s5;have q9:=gd s9;refine op_store_row 188 (.tmp 5) (.tmp 9) rfl C s5 _ s9 _ _ hC (by rw[dig_size,dig_size,hx,zs_size]) (by rw[dig_size,hx];kernel_rfl) (one_dig _ _ _ _ hx1) ?_;clear q5 q9;refine hK _ _ ?_;clear hK K;change wpList _ _ _ _ a _;have hgs:=gb_setRow w1 C (dig (shaBlks m 0 (m.length / 64) sha0) x ((m.length % 64:Nat):Int) ((m.length:Nat):Int));replace hB:=GB.below2 hB hgs CB;replace hKt:=hKt.gb hgs hC0.symm;replace hC:=Dst.set hx hx1 (hC.setRow (dig (shaBlks m 0 (m.length / 64) sha0) x ((m.length % 64:Nat):Int) ((m.length:Nat):Int))) hb;clear hgs hg hb;revert hB hKt hC;generalize World.setRow _ _ _=w;intro hB hKt hC;clear s8 s9;refine wp_seq ?_;refine wp_region_list ?_;show wpList _ _ _ [_,_,_] _ _
 refine tail_op rfl (fun K hK=>?_);have q5:=gd s5;go_simp;refine(c_checkSum C m _ hC hm8 hlen hKt hC0).mono ?_;rintro e w2 ⟨rfl,hg2,c4⟩;clear q5;refine hK _ _ ?_;clear hK K;refine act_put (d:=10) _ hs hd (by decide) [(1,_),(5,_)] ⟨s1,s5,trivial⟩ rfl ?_;clear hs hd s1 s5;intro a hs hd zl;replace hB:=GB.below2 hB hg2 CB;clear hg2 hC hKt;refine tail_op rfl (fun K hK=>?_);go_simp;refine hK _ _ (tP hs hd zl ?_);clear hK K hs hd zl;intro a hs hd zl;obtain⟨H,hE⟩:∃B,Is w2.heap.size B:=is_self _;have hCH0:C≠H:=by have:=World.block_lt_of_cell? w2 _ c4;rw[← hE.out];exact Nat.ne_of_lt this
 have HB:=Nat.le_trans hB.size (Nat.le_of_eq hE.out);generalize hw1:World.alloc w2 _=w1;have hH:Blk w1 H 190 (zs 32):=by rw[← hw1,← hE.out];exact Blk.new w2 _ _
 have hB1:Below w2.heap.size w2 w1:=by rw[← hw1];exact bz_alloc (bz_refl w2) _
 replace hB:=bz_then hB hB1;replace c4:=cell_up hB1 c4;obtain⟨s6,s10,s1,s5,-⟩:=zl;rw[hE.out]at s6;clear hw1 hB1 hE;refine tail_op rfl (fun K hK=>?_);have q6:=gd s6;have q10:=gd s10;refine op_store_row 190 (.tmp 6) (.tmp 10) rfl H s6 _ s10 _ _ hH (by rw[zs_size];rfl) (by kernel_rfl) (one_u8 _) ?_;clear q6 q10;refine hK _ _ ?_;clear hK K;change wpList _ _ _ _ a _;have hgs:=gb_setRow w1 H ((sha m).map (Value.int .u8)).toArray;replace hB:=GB.below2 hB hgs HB;replace c4:=(gb_cell hgs (World.block_lt_of_cell? w1 _ c4) (by simpa using hCH0)).trans c4;replace hH:=hH.setRow ((sha m).map (Value.int .u8)).toArray;clear hgs;revert hB c4 hH;generalize World.setRow _ _ _=w;intro hB c4 hH;clear s10;refine wp_seq ?_;refine wp_seq ?_;refine fl2 (F:=[(1,_),(5,_),(6,_)]) [.eq 11 _] 1 hs hd ⟨s1,s5,s6,trivial⟩
  ⟨sP bq,
   trivial⟩ ?_
 clear hs hd s1 s5 s6;intro a w hb hs hd zl hh;replace zl:=lH hh 0 zl;clear hh;replace hH:=hH.after hb;replace c4:=cell_up hb c4;replace hB:=bz_then hB hb;clear hb;refine wn 1 ?_;clear hs hd zl;intro a hs hd zl;clear c4;refine wp_cond_false (vL zl 0) ?_;refine wp_skip ?_;refine wp_seq ?_;refine fl2 [.eq 16 _,.eq 17 _] 2 hs hd zl
  ⟨sP bq,
   sP bq,
   trivial⟩ ?_
 clear hs hd zl;intro a w hb hs hd zl hh;replace zl:=lH hh 0 zl;replace zl:=lH hh 1 zl;clear hh;replace hH:=hH.after hb;replace hB:=bz_then hB hb;clear hb;show wpList _ _ _ [_,_] _ _
 refine tail_op rfl (fun K hK=>?_);have q16:=gL zl 1;have q17:=gL zl 0;have s16:=vL zl 1;have s17:=vL zl 0;refine op_app_u8 (.tmp 16) (.tmp 17) rfl (l:=[]) (l2:=sha m) s16 s17 (OwnB.nil _ _) (bs_u8s hH) (by rw[shaN];decide) hB.size ?_;intro l1 A1 c1 w1 hl1 _ hown1 hb1 _ _;clear q16 q17;refine hK _ _ (tP hs hd zl ?_);clear hK K hs hd zl s16 s17;intro a hs hd zl;replace hB:=hB.trans hb1;clear hH hb1;refine wn 1 ?_;clear hs hd zl;intro a hs hd zl;refine wp_ret ?_;exact end_tmp rfl hd (vL zl 0) (OutB.mk' hl1.out hown1 hB)
theorem c_sum256(A:Option Addr)(c:Nat)(p:List Int)(w:World)(hA:Fm A p.length c)(hp:Bs w A p)(hcap:p.length≤c)(hp8:Bytes p)(hlen:p.length≤900000000000)(hKt:KTab w 1)(h0:1<w.heap.size):
  Calls Tryz.prog 156 #[.slice A p.length c] w fun e w'=>e=.returned (arr32 (sha p))∧Below w.heap.size w w':=by
 refine enter_abs Tryz.func156 rfl 14 rfl (by simp) ?_;intro a hs hd hargs;have s0:=hargs 0 _ rfl;clear hargs;have hB:=bz_refl w;refine wp_seq ?_;refine wp_region_list ?_;show wpList _ _ _ [_] _ _
 refine tail_op rfl (fun K hK=>?_);go_simp;refine hK _ _ ?_;clear hK K;refine act_put (d:=2) _ hs hd (by decide) [(0,_)] ⟨s0,trivial⟩ rfl ?_;clear hs hd s0;intro a hs hd zl;obtain⟨R0,hE⟩:∃B,Is w.heap.size B:=is_self _;have R0B:=Nat.le_trans hB.size (Nat.le_of_eq hE.out);generalize hw1:World.alloc w _=w1;have hR:Blk w1 R0 190 (zs 32):=by rw[← hw1,← hE.out];exact Blk.new w _ _
 have hB1:Below w.heap.size w w1:=by rw[← hw1];exact bz_alloc (bz_refl w) _
 replace hB:=bz_then hB hB1;replace hp:=hp.after hB1;replace hKt:=hKt.after hB1;obtain⟨s2,s0,-⟩:=zl;rw[hE.out]at s2;clear hw1 hB1 hE;refine wp_seq ?_;refine wp_region_list ?_;show wpList _ _ _ [_,_] _ _
 refine tail_op rfl (fun K hK=>?_);go_simp;refine(c_New _).mono ?_;rintro e w2 ⟨B,rfl,hwB,hb2,hD⟩;refine hK _ _ ?_;clear hK K;refine act_put (d:=5) _ hs hd (by decide) [(0,_),(2,_)] ⟨s0,s2,trivial⟩ rfl ?_;clear hs hd s0 s2;intro a hs hd zl;have BB:=Nat.le_trans hB.size hwB;have hBR:B≠R0:=by have:=hR.lt;omega
 have hfar:=hp.far hwB;replace hB:=bz_then hB hb2;replace hR:=hR.after hb2;replace hp:=hp.after hb2;replace hKt:=hKt.after hb2;clear hb2 hwB;refine wn 1 ?_;clear hs hd zl;intro a hs hd zl;refine wp_seq ?_;refine fl2 [.eq 6 _,.eq 7 _] 2 hs hd zl
  ⟨sP bq,
   sP bq,
   trivial⟩ ?_
 clear hs hd zl;intro a w hb hs hd zl hh;replace zl:=lH hh 0 zl;replace zl:=lH hh 1 zl;clear hh;replace hR:=hR.after hb;replace hp:=hp.after hb;replace hKt:=hKt.after hb;replace hD:=hD.after hb;replace hB:=bz_then hB hb;clear hb;show wpList _ _ _ [_] _ _
 refine tail_op rfl (fun K hK=>?_);have q6:=gL zl 1;have q7:=gL zl 0;go_simp;refine(c_Write B c [] p A _ hA.arg hD hp hfar hcap Bytes.nil hp8 (by rw[List.length_nil];omega) hKt (by omega)).mono ?_;rintro e w2 ⟨rfl,hg2,hD2⟩;clear q6 q7;refine hK _ _ (tP hs hd zl ?_);clear hK K hs hd zl;intro a hs hd zl;replace hB:=GB.below2 hB hg2 BB;replace hR:=hR.gbfar hg2 hBR;replace hKt:=hKt.gb hg2 (by omega);replace hD:Dst _ B p:=hD2;clear hg2 hD2 hp;refine wp_seq ?_;refine wp_region_list ?_;show wpList _ _ _ [_] _ _
 refine tail_op rfl (fun K hK=>?_);go_simp;refine hK _ _ (tP hs hd zl ?_);clear hK K hs hd zl;intro a hs hd zl;obtain⟨D,hE⟩:∃B,Is w2.heap.size B:=is_self _;have hDR:D≠R0:=by have:=hR.lt;rw[← hE.out];omega
 have DB:=Nat.le_trans hB.size (Nat.le_of_eq hE.out);generalize hw1:World.alloc w2 _=w1;have hDd:Blk w1 D 190 (zs 32):=by rw[← hw1,← hE.out];exact Blk.new w2 _ _
 have hB1:Below w2.heap.size w2 w1:=by rw[← hw1];exact bz_alloc (bz_refl w2) _
 replace hB:=bz_then hB hB1;replace hR:=hR.after hB1;replace hD:=hD.after hB1;replace hKt:=hKt.after hB1;obtain⟨s4,-,-,-,s3,-,-,s2,-⟩:=zl;rw[hE.out]at s4;clear hw1 hB1 hE;refine wp_seq ?_;refine fl2 (F:=[(2,_),(3,_),(4,_)]) [.eq 9 _,.eq 10 _,FItem.bs 11 0 (sha p)] 3 hs hd ⟨s2,s3,s4,trivial⟩
  ⟨sP bq,
   sP bq,
   (stp rfl fun a u hb hs hl hd K hK=>by
    have s10:=gD hd 1;clear hd;go_simp;refine(c_DSum B p _ (hD.after hb) hp8 hlen (hKt.after hb) (by have:=(hDd.after hb).lt;omega)).mono ?_;intro e w2 h;obtain⟨v,rfl,hv,hb2⟩:=h.read.at_ (Nat.zero_le _);exact hK _ _ hb2 (bs_put hs (by decide) hv)),
   trivial⟩ ?_
 clear hs hd s2 s3 s4;intro a w hb hs hd zl hh;replace zl:=lH hh 0 zl;obtain⟨l1,A1,c1,hl1,s11,-,-,hb1,-⟩:=FItem.bs_holds.1 (hold_get hh 2);clear hh;replace hR:=hR.after hb;replace hDd:=hDd.after hb;replace hB:=bz_then hB hb;clear hb;show wpList _ _ _ [_] _ _
 refine tail_op rfl (fun K hK=>?_);have q9:=gL zl 0;have q11:=gd s11;have s9:=vL zl 0;refine op_copy_32 (.tmp 9) (.tmp 11) rfl s9 s11 hDd (by rw[hl1.out,shaN]) hb1 ?_;intro w2 hg2 hb2;rw[hl1.out]at hb2;clear q9 q11;refine hK _ _ ?_;clear hK K;clear s9;obtain⟨s9,s2,-,s4,-⟩:=zl;refine act_put (d:=12) _ hs hd (by decide) [(2,_),(4,_),(9,_),(11,_)] ⟨s2,s4,s9,s11,trivial⟩ rfl ?_;clear hs hd s2 s4 s9 s11;intro a hs hd zl;replace hB:=GB.below2 hB hg2 DB;replace hR:=hR.gbfar hg2 hDR;replace hDd:=hb2;clear hg2 hb2 hb1 hD hKt;refine wp_seq ?_;refine wp_region_list ?_;show wpList _ _ _ [_,_] _ _
 refine tail_op rfl (fun K hK=>?_);have q4:=gL zl 2;have s4:=vL zl 2;refine op_load_row 190 (.tmp 4) rfl D s4 _ _ _ hDd rfl rfl (by kernel_rfl) ?_;clear q4;refine hK _ _ (tP hs hd zl ?_);clear hK K hs hd zl s4;intro a hs hd zl;refine tail_op rfl (fun K hK=>?_);have q2:=gL zl 2;have q13:=gL zl 0;have s2:=vL zl 2;have s13:=vL zl 0;refine op_store_row 190 (.tmp 2) (.tmp 13) rfl R0 s2 _ s13 _ _ hR (by rw[zs_size];rfl) (by kernel_rfl) (one_u8 _) ?_;clear q2 q13;refine hK _ _ ?_;clear hK K;change wpList _ _ _ _ a _;clear s13;refine wp_ret ?_;exact end_row rfl R0 s2 hd.out 190 _ _ (hR.setRow _) rfl rfl (by kernel_rfl) ⟨rfl,GB.below2 hB (gb_setRow _ R0 _) R0B⟩
theorem c_mSum(A:Option Addr)(c:Nat)(p:List Int)(w:World)(hA:Fm A p.length c)(hp:Bs w A p)(hcap:p.length≤c)(hp8:Bytes p)(hlen:p.length≤900000000000)(hKt:KTab w 1)(h0:1<w.heap.size):
  Calls Tryz.prog 147 #[.slice A p.length c] w (ReadB w (sha p)):=by
 refine enter_abs Tryz.func147 rfl 7 rfl (by simp) ?_;intro a hs hd hargs;have s0:=hargs 0 _ rfl;clear hargs;have hB:=bz_refl w;refine wp_seq ?_;refine wp_region_list ?_;show wpList _ _ _ [_] _ _
 refine tail_op rfl (fun K hK=>?_);go_simp;refine hK _ _ ?_;clear hK K;refine act_put (d:=2) _ hs hd (by decide) [(0,_)] ⟨s0,trivial⟩ rfl ?_;clear hs hd s0;intro a hs hd zl;refine wp_seq ?_;refine fl2 [.eq 4 _] 1 hs hd zl
  ⟨sP bq,
   trivial⟩ ?_
 clear hs hd zl;intro a w hb hs hd zl hh;replace zl:=lH hh 0 zl;clear hh;replace hp:=hp.after hb;replace hKt:=hKt.after hb;replace hB:=bz_then hB hb;clear hb;show wpList _ _ _ [_,_,_] _ _
 refine tail_op rfl (fun K hK=>?_);have q4:=gL zl 0;go_simp;refine(c_sum256 A c p _ hA hp hcap hp8 hlen hKt (by have:=hB.size;omega)).mono ?_;rintro e w2 ⟨rfl,hb2⟩;clear q4;refine hK _ _ (tP hs hd zl ?_);clear hK K hs hd zl;intro a hs hd zl;replace hB:=bz_then hB hb2;clear hb2 hp hKt;refine tail_op rfl (fun K hK=>?_);go_simp;refine hK _ _ (tP hs hd zl ?_);clear hK K hs hd zl;intro a hs hd zl;obtain⟨H,hE⟩:∃B,Is w2.heap.size B:=is_self _;have HB:=Nat.le_trans hB.size (Nat.le_of_eq hE.out);generalize hw1:World.alloc w2 _=w1;have hH:Blk w1 H 190 (zs 32):=by rw[← hw1,← hE.out];exact Blk.new w2 _ _
 have hB1:Below w2.heap.size w2 w1:=by rw[← hw1];exact bz_alloc (bz_refl w2) _
 replace hB:=bz_then hB hB1;obtain⟨s3,s5,s4,-,-,-⟩:=zl;rw[hE.out]at s3;clear hw1 hB1 hE;refine tail_op rfl (fun K hK=>?_);have q3:=gd s3;have q5:=gd s5;refine op_store_row 190 (.tmp 3) (.tmp 5) rfl H s3 _ s5 _ _ hH (by rw[zs_size];rfl) (by kernel_rfl) (one_u8 _) ?_;clear q3 q5;refine hK _ _ ?_;clear hK K;change wpList _ _ _ _ a _;replace hB:=GB.below2 hB (gb_setRow w1 H ((sha p).map (Value.int .u8)).toArray) HB;replace hH:=hH.setRow ((sha p).map (Value.int .u8)).toArray;revert hB hH;generalize World.setRow _ _ _=w;intro hB hH;clear s4 s5;refine wp_seq ?_;refine fl2 (F:=[(3,_)]) [.eq 6 _] 1 hs hd ⟨s3,trivial⟩
  ⟨sP bq,
   trivial⟩ ?_
 clear hs hd s3;intro a w hb hs hd zl hh;replace zl:=lH hh 0 zl;clear hh;replace hH:=hH.after hb;replace hB:=bz_then hB hb;clear hb;refine wn 1 ?_;clear hs hd zl;intro a hs hd zl;refine wp_ret ?_;have s2:=vL zl 0;exact end_tmp rfl hd s2 (ReadB.mk' (l':=sha p) rfl (.inr ⟨_,_,rfl⟩) (Nat.le_refl _) (bs_u8s hH) (fun k hk=>by injection hk with hk;subst hk;exact⟨HB,hH.lt⟩) hB)
theorem c_leafPrefix(w:World):Calls Tryz.prog 148 #[] w (ReadB w [0]):=by
 go_enter Tryz.func148,Tryz.ntmps148
 go_wp2
 go_ret
 exact ReadB.mk' (l':=[0]) rfl (.inr ⟨_,_,rfl⟩) (Nat.le_refl _) (bs_one _ _ _) (fun k hk=>by injection hk with hk;subst hk;exact⟨Nat.le_refl _,by simp⟩) (bz_alloc (bz_refl w) _)
theorem c_innerPrefix(w:World):Calls Tryz.prog 150 #[] w (ReadB w [1]):=by
 go_enter Tryz.func150,Tryz.ntmps150
 go_wp2
 go_ret
 exact ReadB.mk' (l':=[1]) rfl (.inr ⟨_,_,rfl⟩) (Nat.le_refl _) (bs_one _ _ _) (fun k hk=>by injection hk with hk;subst hk;exact⟨Nat.le_refl _,by simp⟩) (bz_alloc (bz_refl w) _)
theorem c_emptyHash(w:World)(hKt:KTab w 1)(h0:1<w.heap.size):Calls Tryz.prog 133 #[] w (ReadB w (sha [])):=by
 go_enter Tryz.func133,Tryz.ntmps133
 go_wp2_with (go_at_call 147;refine(c_mSum _ 0 [] _ (.inr ⟨_,_,rfl⟩) (Bs.nil _ _) (Nat.le_refl _) Bytes.nil (by decide) (hKt.after (bz_alloc (bz_refl w) _)) (by first|(simp;done)|(simp;omega))).mono ?_;rintro e w1 ⟨l1,A1,c1,hl1,rfl,hf1,hc1,hb1,hn1,hb2⟩)
 go_ret
 exact ReadB.mk' hl1.out hf1 hc1 hb1 (fun k hk=>⟨by have:=hn1 k hk;simp at this;omega,(hn1 k hk).2⟩) (bz_then (bz_alloc (bz_refl w) _) hb2)
def AnyD(w:World)(g:Nat):Prop:=∃s x nx ln,(x.size=64∧One x)∧Blk w g 188 (dig s x nx ln)
theorem KTab.lt{w:World}{g:Nat}(h:KTab w g):g<w.heap.size:=World.block_lt_of_cell? w _ (h 0 (by decide))
theorem Dst.any{w:World}{g:Nat}{m:List Int}(h:Dst w g m):AnyD w g:=by
 obtain⟨x,h1,h2,h3⟩:=h;exact⟨_,x,_,_,h1,h2⟩
theorem meth_Reset(a:Addr)(w:World):(method 252 178 (.pointer (some a)) "Reset").run Tryz.prog w=.ok (88,.pointer (some a)) w:=by kernel_rfl
theorem meth_Write(a:Addr)(w:World):(method 252 178 (.pointer (some a)) "Write").run Tryz.prog w=.ok (79,.pointer (some a)) w:=by kernel_rfl
theorem meth_Sum(a:Addr)(w:World):(method 252 178 (.pointer (some a)) "Sum").run Tryz.prog w=.ok (80,.pointer (some a)) w:=by kernel_rfl
theorem meth_nil(a:Addr)(w:World):(nilAhead 252 178 (.pointer (some a)) "Write").run Tryz.prog w=.ok (some false) w:=by kernel_rfl
theorem one_byte{x:Int}(h0:0≤x)(h1:x<256):Bytes [x]:=fun y hy=>by rw[List.mem_singleton.1 hy];exact⟨h0,h1⟩
theorem c_leafHash(g:Nat)(A:Option Addr)(c:Nat)(p:List Int)(w:World)(hD:AnyD w g)(hA0:Fm A p.length c)(hp0:Bs w A p)(hf0:Far A p (some g))(hc0:p.length≤c)(h80:Bytes p)(hlen:p.length≤800000000000)(hKt:KTab w 1)(hg0:g≠1):
  Calls Tryz.prog 134 #[.iface 178 (.pointer (some ⟨g,0,none⟩)),.slice A p.length c] w fun e w'=>∃v,e=.returned v∧BsAt w.heap.size (sha (0::p)) v w'∧w.grownBy w' (some g)∧AnyD w' g:=by
 refine enter_abs Tryz.func134 rfl 18 rfl (by simp) ?_;intro a hs hd hargs;have s0:=hargs 0 _ rfl;have s1:=hargs 1 _ rfl;clear hargs;have hG:=GB.refl w g;obtain⟨s,x,nx,ln,⟨hx,hx1⟩,hg⟩:=hD;refine wp_seq ?_;refine wp_region_list ?_;show wpList _ _ _ [_] _ _
 refine tail_op rfl (fun K hK=>?_);go_simp;refine hK _ _ ?_;clear hK K;refine act_put (d:=4) _ hs hd (by decide) [(0,_),(1,_)] ⟨s0,s1,trivial⟩ rfl ?_;clear hs hd s0 s1;intro a hs hd zl;refine wp_seq ?_;refine fl2 [.eq 5 _] 1 hs hd zl
  ⟨sP bq,
   trivial⟩ ?_
 clear hs hd zl;intro a w hb hs hd zl hh;replace zl:=lH hh 0 zl;clear hh;replace hG:=hG.after hb;replace hg:=hg.after hb;replace hKt:=hKt.after hb;replace hp0:=hp0.after hb;clear hb;show wpList _ _ _ [_] _ _
 refine tail_op rfl (fun K hK=>?_);have q5:=gL zl 0;have mR:=meth_Reset;go_simp;clear mR;refine(c_Reset g s x nx ln _ hg hx hx1).mono ?_;rintro e w2 ⟨rfl,hg2,hD⟩;clear q5;refine hK _ _ (tP hs hd zl ?_);clear hK K hs hd zl;intro a hs hd zl;replace hG:=hG.trans hg2;replace hp0:=hp0.grown hg2 hf0;replace hKt:=hKt.gb hg2 hg0.symm;have hgw:=hD.lt;clear hg2 hg;refine wp_seq ?_;obtain⟨-,-,-,s0,s1,-⟩:=zl;refine fl2 (F:=[(0,_),(1,_)]) [.eq 7 _,FItem.bs 8 w2.heap.size [0],.eq 9 _,.eq 10 _,.eq 11 _] 5 hs hd ⟨s0,s1,trivial⟩
  ⟨sP bq,
   (stp rfl fun a u hb hs hl hd K hK=>by
    clear hd;go_simp;refine(c_leafPrefix _).mono ?_;intro e w3 h;obtain⟨v,rfl,hv,hb2⟩:=h.at_ hb.size;exact hK _ _ hb2 (bs_put hs (by decide) hv)),
   sP bq,
   (stp rfl fun a u hb hs hl hd K hK=>by
    have s9:=gD hd 2;clear hd;have mN:=meth_nil;go_simp;exact kE hK hs),
   sP bq,
   trivial⟩ ?_
 clear hs hd s0 s1;intro a w hb hs hd zl hh;replace zl:=lH hh 4 zl;obtain⟨l1,A1,c1,hl1,s8,f1,k1,hb1,n1⟩:=FItem.bs_holds.1 (hold_get hh 1);clear hh;replace hG:=hG.after hb;replace hD:=hD.after hb;replace hKt:=hKt.after hb;replace hp0:=hp0.after hb;clear hb;show wpList _ _ _ [_] _ _
 refine tail_op rfl (fun K hK=>?_);have q8:=gd s8;have q11:=gL zl 0;have mW:=meth_Write;go_simp;clear mW;refine(c_Write g c1 [] l1 A1 _ f1.arg hD hb1 (fun hx e=>by have:=(n1 g e).1;omega) k1 Bytes.nil (by rw[hl1.out];intro y hy;rw[List.mem_singleton.1 hy];exact⟨by decide,by decide⟩) (by rw[hl1.out];decide) hKt hg0).mono ?_;rintro e w3 ⟨rfl,hg2,hD2⟩;clear q8 q11;refine hK _ _ ?_;clear hK K;obtain⟨s11,s0,s1,-⟩:=zl;refine act_put (d:=12) _ hs hd (by decide) [(0,_),(1,_),(8,_),(11,_)] ⟨s0,s1,s8,s11,trivial⟩ rfl ?_;clear hs hd s0 s1 s8 s11;intro a hs hd zl;replace hG:=hG.trans hg2;replace hp0:=hp0.grown hg2 hf0;replace hKt:=hKt.gb hg2 hg0.symm;rw[hl1.out]at hD2;replace hD:Dst _ g [0]:=hD2;clear hg2 hD2 hb1;refine wp_seq ?_;refine fl2 [.eq 13 _,.eq 14 _] 2 hs hd zl
  ⟨sP bq,
   sP bq,
   trivial⟩ ?_
 clear hs hd zl;intro a w hb hs hd zl hh;replace zl:=lH hh 0 zl;replace zl:=lH hh 1 zl;clear hh;replace hG:=hG.after hb;replace hD:=hD.after hb;replace hKt:=hKt.after hb;replace hp0:=hp0.after hb;clear hb;show wpList _ _ _ [_] _ _
 refine tail_op rfl (fun K hK=>?_);have q13:=gL zl 1;have q14:=gL zl 0;have mW:=meth_Write;go_simp;clear mW;refine(c_Write g c ([0]) p A _ hA0.arg hD hp0 hf0 hc0 (one_byte (by decide) (by decide)) h80 (by simp only[List.length_append,List.length_cons,List.length_nil];omega) hKt hg0).mono ?_;rintro e w3 ⟨rfl,hg2,hD2⟩;clear q13 q14;refine hK _ _ (tP hs hd zl ?_);clear hK K hs hd zl;intro a hs hd zl;replace hG:=hG.trans hg2;replace hp0:=hp0.grown hg2 hf0;replace hKt:=hKt.gb hg2 hg0.symm;replace hD:=hD2;clear hg2;rw[show[0]++p=0::p from rfl]at hD;refine wp_seq ?_;refine fl2 [.eq 16 _] 1 hs hd zl
  ⟨sP bq,
   trivial⟩ ?_
 clear hs hd zl;intro a w hb hs hd zl hh;replace zl:=lH hh 0 zl;clear hh;replace hG:=hG.after hb;replace hD:=hD.after hb;replace hKt:=hKt.after hb;replace hp0:=hp0.after hb;clear hb;show wpList _ _ _ [_,_] _ _
 refine tail_op rfl (fun K hK=>?_);have q16:=gL zl 0;have mS:=meth_Sum;go_simp;clear mS;refine(c_DSum g _ _ hD ((one_byte (x:=0) (by decide) (by decide)).append h80) (by simp only[List.length_append,List.length_cons];omega) hKt hKt.lt).mono ?_;intro e w3 h;obtain⟨v,rfl,hv,hb2⟩:=h.read.at_ hG.size;clear q16;refine hK _ _ (tP hs hd zl ?_);clear hK K hs hd zl;intro a hs hd zl;replace hG:=hG.after hb2;replace hD:=hD.after hb2;clear hb2;refine wn 1 ?_;clear hs hd zl;intro a hs hd zl;refine wp_ret ?_;exact end_tmp rfl hd (vL zl 0) ⟨v,rfl,hv,hG,hD.any⟩
theorem c_innerHash(g:Nat)(A:Option Addr)(c:Nat)(p:List Int)(A':Option Addr)(c':Nat)(p':List Int)(w:World)(hD:AnyD w g)(hA0:Fm A p.length c)(hp0:Bs w A p)(hf0:Far A p (some g))(hc0:p.length≤c)(h80:Bytes p)(hA1:Fm A' p'.length c')(hp1:Bs w A' p')(hf1:Far A' p' (some g))(hc1:p'.length≤c')(h81:Bytes p')(hlen:p.length+p'.length≤800000000000)(hKt:KTab w 1)(hg0:g≠1):
  Calls Tryz.prog 136 #[.iface 178 (.pointer (some ⟨g,0,none⟩)),.slice A p.length c,.slice A' p'.length c'] w fun e w'=>∃v,e=.returned v∧BsAt w.heap.size (sha (1::(p++p'))) v w'∧w.grownBy w' (some g)∧AnyD w' g:=by
 refine enter_abs Tryz.func136 rfl 23 rfl (by simp) ?_;intro a hs hd hargs;have s0:=hargs 0 _ rfl;have s1:=hargs 1 _ rfl;have s2:=hargs 2 _ rfl;clear hargs;have hG:=GB.refl w g;obtain⟨s,x,nx,ln,⟨hx,hx1⟩,hg⟩:=hD;refine wp_seq ?_;refine wp_region_list ?_;show wpList _ _ _ [_] _ _
 refine tail_op rfl (fun K hK=>?_);go_simp;refine hK _ _ ?_;clear hK K;refine act_put (d:=6) _ hs hd (by decide) [(0,_),(1,_),(2,_)] ⟨s0,s1,s2,trivial⟩ rfl ?_;clear hs hd s0 s1 s2;intro a hs hd zl;refine wp_seq ?_;refine fl2 [.eq 7 _] 1 hs hd zl
  ⟨sP bq,
   trivial⟩ ?_
 clear hs hd zl;intro a w hb hs hd zl hh;replace zl:=lH hh 0 zl;clear hh;replace hG:=hG.after hb;replace hg:=hg.after hb;replace hKt:=hKt.after hb;replace hp0:=hp0.after hb;replace hp1:=hp1.after hb;clear hb;show wpList _ _ _ [_] _ _
 refine tail_op rfl (fun K hK=>?_);have q7:=gL zl 0;have mR:=meth_Reset;go_simp;clear mR;refine(c_Reset g s x nx ln _ hg hx hx1).mono ?_;rintro e w2 ⟨rfl,hg2,hD⟩;clear q7;refine hK _ _ (tP hs hd zl ?_);clear hK K hs hd zl;intro a hs hd zl;replace hG:=hG.trans hg2;replace hp0:=hp0.grown hg2 hf0;replace hp1:=hp1.grown hg2 hf1;replace hKt:=hKt.gb hg2 hg0.symm;have hgw:=hD.lt;clear hg2 hg;refine wp_seq ?_;obtain⟨-,-,-,s0,s1,s2,-⟩:=zl;refine fl2 (F:=[(0,_),(1,_),(2,_)]) [.eq 9 _,FItem.bs 10 w2.heap.size [1],.eq 11 _,.eq 12 _,.eq 13 _] 5 hs hd ⟨s0,s1,s2,trivial⟩
  ⟨sP bq,
   (stp rfl fun a u hb hs hl hd K hK=>by
    clear hd;go_simp;refine(c_innerPrefix _).mono ?_;intro e w3 h;obtain⟨v,rfl,hv,hb2⟩:=h.at_ hb.size;exact hK _ _ hb2 (bs_put hs (by decide) hv)),
   sP bq,
   (stp rfl fun a u hb hs hl hd K hK=>by
    have s11:=gD hd 2;clear hd;have mN:=meth_nil;go_simp;exact kE hK hs),
   sP bq,
   trivial⟩ ?_
 clear hs hd s0 s1 s2;intro a w hb hs hd zl hh;replace zl:=lH hh 4 zl;obtain⟨l1,A1,c1,hl1,s10,f1,k1,hb1,n1⟩:=FItem.bs_holds.1 (hold_get hh 1);clear hh;replace hG:=hG.after hb;replace hD:=hD.after hb;replace hKt:=hKt.after hb;replace hp0:=hp0.after hb;replace hp1:=hp1.after hb;clear hb;show wpList _ _ _ [_] _ _
 refine tail_op rfl (fun K hK=>?_);have q10:=gd s10;have q13:=gL zl 0;have mW:=meth_Write;go_simp;clear mW;refine(c_Write g c1 [] l1 A1 _ f1.arg hD hb1 (fun hx e=>by have:=(n1 g e).1;omega) k1 Bytes.nil (by rw[hl1.out];intro y hy;rw[List.mem_singleton.1 hy];exact⟨by decide,by decide⟩) (by rw[hl1.out];decide) hKt hg0).mono ?_;rintro e w3 ⟨rfl,hg2,hD2⟩;clear q10 q13;refine hK _ _ ?_;clear hK K;obtain⟨s13,s0,s1,s2,-⟩:=zl;refine act_put (d:=14) _ hs hd (by decide) [(0,_),(1,_),(2,_),(10,_),(13,_)] ⟨s0,s1,s2,s10,s13,trivial⟩ rfl ?_;clear hs hd s0 s1 s2 s10 s13;intro a hs hd zl;replace hG:=hG.trans hg2;replace hp0:=hp0.grown hg2 hf0;replace hp1:=hp1.grown hg2 hf1;replace hKt:=hKt.gb hg2 hg0.symm;rw[hl1.out]at hD2;replace hD:Dst _ g [1]:=hD2;clear hg2 hD2 hb1;refine wp_seq ?_;refine fl2 [.eq 15 _,.eq 16 _] 2 hs hd zl
  ⟨sP bq,
   sP bq,
   trivial⟩ ?_
 clear hs hd zl;intro a w hb hs hd zl hh;replace zl:=lH hh 0 zl;replace zl:=lH hh 1 zl;clear hh;replace hG:=hG.after hb;replace hD:=hD.after hb;replace hKt:=hKt.after hb;replace hp0:=hp0.after hb;replace hp1:=hp1.after hb;clear hb;show wpList _ _ _ [_] _ _
 refine tail_op rfl (fun K hK=>?_);have q15:=gL zl 1;have q16:=gL zl 0;have mW:=meth_Write;go_simp;clear mW;refine(c_Write g c ([1]) p A _ hA0.arg hD hp0 hf0 hc0 (one_byte (by decide) (by decide)) h80 (by simp only[List.length_append,List.length_cons,List.length_nil];omega) hKt hg0).mono ?_;rintro e w3 ⟨rfl,hg2,hD2⟩;clear q15 q16;refine hK _ _ (tP hs hd zl ?_);clear hK K hs hd zl;intro a hs hd zl;replace hG:=hG.trans hg2;replace hp0:=hp0.grown hg2 hf0;replace hp1:=hp1.grown hg2 hf1;replace hKt:=hKt.gb hg2 hg0.symm;replace hD:=hD2;clear hg2;refine wp_seq ?_;refine fl2 [.eq 18 _,.eq 19 _] 2 hs hd zl
  ⟨sP bq,
   sP bq,
   trivial⟩ ?_
 clear hs hd zl;intro a w hb hs hd zl hh;replace zl:=lH hh 0 zl;replace zl:=lH hh 1 zl;clear hh;replace hG:=hG.after hb;replace hD:=hD.after hb;replace hKt:=hKt.after hb;replace hp0:=hp0.after hb;replace hp1:=hp1.after hb;clear hb;show wpList _ _ _ [_] _ _
 refine tail_op rfl (fun K hK=>?_);have q18:=gL zl 1;have q19:=gL zl 0;have mW:=meth_Write;go_simp;clear mW;refine(c_Write g c' ([1]++p) p' A' _ hA1.arg hD hp1 hf1 hc1 ((one_byte (by decide) (by decide)).append h80) h81 (by simp only[List.length_append,List.length_cons,List.length_nil];omega) hKt hg0).mono ?_;rintro e w3 ⟨rfl,hg2,hD2⟩;clear q18 q19;refine hK _ _ (tP hs hd zl ?_);clear hK K hs hd zl;intro a hs hd zl;replace hG:=hG.trans hg2;replace hp0:=hp0.grown hg2 hf0;replace hp1:=hp1.grown hg2 hf1;replace hKt:=hKt.gb hg2 hg0.symm;replace hD:=hD2;clear hg2;rw[show[1]++p++p'=1::(p++p')from rfl]at hD;refine wp_seq ?_;refine fl2 [.eq 21 _] 1 hs hd zl
  ⟨sP bq,
   trivial⟩ ?_
 clear hs hd zl;intro a w hb hs hd zl hh;replace zl:=lH hh 0 zl;clear hh;replace hG:=hG.after hb;replace hD:=hD.after hb;replace hKt:=hKt.after hb;replace hp0:=hp0.after hb;replace hp1:=hp1.after hb;clear hb;show wpList _ _ _ [_,_] _ _
 refine tail_op rfl (fun K hK=>?_);have q21:=gL zl 0;have mS:=meth_Sum;go_simp;clear mS;refine(c_DSum g _ _ hD ((one_byte (x:=1) (by decide) (by decide)).append (h80.append h81)) (by simp only[List.length_append,List.length_cons];omega) hKt hKt.lt).mono ?_;intro e w3 h;obtain⟨v,rfl,hv,hb2⟩:=h.read.at_ hG.size;clear q21;refine hK _ _ (tP hs hd zl ?_);clear hK K hs hd zl;intro a hs hd zl;replace hG:=hG.after hb2;replace hD:=hD.after hb2;clear hb2;refine wn 1 ?_;clear hs hd zl;intro a hs hd zl;refine wp_ret ?_;exact end_tmp rfl hd (vL zl 0) ⟨v,rfl,hv,hG,hD.any⟩
end Go.Proofs.YtjhnnjhaklohhaaGreatDoor
