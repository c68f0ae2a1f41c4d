/- The reference's Sum: a block's end. (Printed by gen_ssumg.py.) The reference's Sum: the state copied into a slice of its own. The reference's Sum: the blocks. (Printed by gen_ssumh.py.) The reference's Sum: its bytes. (Printed by gen_ssumi.py.) The reference's Sum. (Printed by gen_ssumi.py.) The reference's tree: a leaf, an inner node. (Printed by gen_sroot.py.) The reference's tree: Root. (Printed by gen_sroot.py.) Lists of byte slices that a call makes: one slice put behind; how such a list reads. A slot that holds a list of byte slices, for drawn regions. -/
import Derived.Test.YtjhnnjhaklohhaaGreatDoorM5
import Derived.Test.YtjhnnjhaklohhaaGreatDoorM1
set_option linter.unusedVariables false
set_option linter.unusedSimpArgs false
set_option maxHeartbeats 4000000
set_option maxRecDepth 100000
namespace Go.Proofs.YtjhnnjhaklohhaaGreatDoor
open Go.RowKit
def addK(S R:ShaSt)(i:Nat):ShaSt:=
 {a:=if 0<i then add32 S.a R.a else S.a,b:=if 1<i then add32 S.b R.b else S.b,c:=if 2<i then add32 S.c R.c else S.c,d:=if 3<i then add32 S.d R.d else S.d,e:=if 4<i then add32 S.e R.e else S.e,f:=if 5<i then add32 S.f R.f else S.f,g:=if 6<i then add32 S.g R.g else S.g,h:=if 7<i then add32 S.h R.h else S.h}
theorem addK_zero(S R:ShaSt):addK S R 0=S:=rfl
theorem addK_all(S R:ShaSt):addK S R 8=addSt S R:=rfl
def nth8(S:ShaSt)(i:Nat):Int:=[S.a,S.b,S.c,S.d,S.e,S.f,S.g,S.h].getD i 0
theorem addK_get(S R:ShaSt){i:Nat}(h:i<8):(st8 (addK S R i))[i]?=some (.int .u32 (nth8 S i)):=by
 rcases(by omega:i=0∨i=1∨i=2∨i=3∨i=4∨i=5∨i=6∨i=7)with rfl|rfl|rfl|rfl|rfl|rfl|rfl|rfl <;> rfl
theorem addK_set(S R:ShaSt){i:Nat}(h:i<8):(st8 (addK S R i)).setIfInBounds i (.int .u32 (add32 (nth8 S i) (nth8 R i)))=st8 (addK S R (i+1)):=by
 rcases(by omega:i=0∨i=1∨i=2∨i=3∨i=4∨i=5∨i=6∨i=7)with rfl|rfl|rfl|rfl|rfl|rfl|rfl|rfl <;> rfl
theorem Ho.get{w:World}{hb:Nat}{R:ShaSt}(h:Ho w hb R){i:Nat}(hi:i<8):w.cell? ⟨hb,i,none⟩=some (.int .u32 (nth8 R i)):=by
 obtain⟨h0,h1,h2,h3,h4,h5,h6,h7⟩:=h;rcases(by omega:i=0∨i=1∨i=2∨i=3∨i=4∨i=5∨i=6∨i=7)with rfl|rfl|rfl|rfl|rfl|rfl|rfl|rfl <;> assumption
theorem Ho.gb{w w':World}{hb H:Nat}{R:ShaSt}(h:Ho w hb R)(hg:GB w w' H)(hn:hb≠H):Ho w' hb R:=by
 obtain⟨h0,h1,h2,h3,h4,h5,h6,h7⟩:=h;exact⟨(gb_cell hg (World.block_lt_of_cell? w _ h0) (by simpa using hn)).trans h0,(gb_cell hg (World.block_lt_of_cell? w _ h1) (by simpa using hn)).trans h1,(gb_cell hg (World.block_lt_of_cell? w _ h2) (by simpa using hn)).trans h2,(gb_cell hg (World.block_lt_of_cell? w _ h3) (by simpa using hn)).trans h3,(gb_cell hg (World.block_lt_of_cell? w _ h4) (by simpa using hn)).trans h4,(gb_cell hg (World.block_lt_of_cell? w _ h5) (by simpa using hn)).trans h5,(gb_cell hg (World.block_lt_of_cell? w _ h6) (by simpa using hn)).trans h6,(gb_cell hg (World.block_lt_of_cell? w _ h7) (by simpa using hn)).trans h7⟩
theorem SS.put{w0 w:World}{B1 H KR:Nat}{S S':ShaSt}(h:SS w0 w B1 H KR S){i:Nat}{v:Value}(he:(st8 S).setIfInBounds i v=st8 S'):SS w0 (w.setCell ⟨H,i,none⟩ v) B1 H KR S':=by
 obtain⟨h1,h2,h3,h4,h5,h6,h7,h8,h9⟩:=h;refine⟨GB.below2 h1 (gb1 w H i v) h4,?_,h3.gbfar (gb1 w H i v) h6,h4,h5,h6,h7,h8,Nat.le_trans h9 (gb1 w H i v).size⟩;rw[← he];exact h2.set_ i v
theorem ss_end{Q:Exit→Act→World→Prop}{B1 H KR n b o N hb c:Nat}{v0 v6 v9:Value}{S R:ShaSt}{w0:World}{P:List Int}(a:Act)(w:World)(hs:SzIs a 300)(hd:DfNil a)
  (s0:a.tmps.getD 0 undef=v0)(s3:a.tmps.getD 3 undef=.pointer (some ⟨H,0,none⟩))(s4:a.tmps.getD 4 undef=.pointer (some ⟨KR,0,none⟩))(s5:a.tmps.getD 5 undef=.int .i64 ((n:Nat):Int))(s6:a.tmps.getD 6 undef=v6)(s8:a.tmps.getD 8 undef=(Value.func (Fn.func 43) #[] #[]))(s9:a.tmps.getD 9 undef=v9)(s16:a.tmps.getD 16 undef=.slice (some ⟨hb,0,none⟩) 8 c)(s267:a.tmps.getD 267 undef=.int .i64 0)
  (hSS:SS w0 w B1 H KR S)(hM:BytesAt w b o P 0 N)(hH:Ho w hb R)(hhb:B1≤hb)(hbb:B1≤b)
  (hQ:∀(a:Act) (w:World),SzIs a 300→DfNil a→LiveAll [(0,v0),(3,.pointer (some ⟨H,0,none⟩)),(4,.pointer (some ⟨KR,0,none⟩)),(5,.int .i64 ((n:Nat):Int)),(6,v6),(8,(Value.func (Fn.func 43) #[] #[])),(9,v9)] a→SS w0 w B1 H KR (addSt S R)→BytesAt w b o P 0 N→Q (.exit 14) a w):
  (Code.loop (ssB 14)).wp Tryz.prog Q a w:=by
 have hHb:=hSS.2.2.2.2.2.2.1;refine wp_loop (fun a w=>∃i:Nat,i≤8∧SzIs a 300∧DfNil a∧LiveAll [(0,v0),(3,.pointer (some ⟨H,0,none⟩)),(4,.pointer (some ⟨KR,0,none⟩)),(5,.int .i64 ((n:Nat):Int)),(6,v6),(8,(Value.func (Fn.func 43) #[] #[])),(9,v9),(16,.slice (some ⟨hb,0,none⟩) 8 c),(267,.int .i64 ((i:Nat):Int))] a∧SS w0 w B1 H KR (addK S R i)∧BytesAt w b o P 0 N∧Ho w hb R)
  (fun a _=>8-(intOf (a.tmps.getD 267 undef)).toNat) ⟨0,Nat.zero_le _,hs,hd,⟨s0,s3,s4,s5,s6,s8,s9,s16,s267,trivial⟩,hSS,hM,hH⟩ ?_
 clear hs hd s0 s3 s4 s5 s6 s8 s9 s16 s267 hSS hM hH a w;rintro a w ⟨i,hi,hs,hd,⟨s0,s3,s4,s5,s6,s8,s9,s16,s267,-⟩,hSS,hM,hH⟩;have hm:(intOf (a.tmps.getD 267 undef)).toNat=i:=by rw[s267];simp[intOf]
 rw[hm];clear hm;by_cases h8:i<8
 ·have e1:decide (i<8)=true:=decide_eq_true h8;have e2:decide ((i:Int)<8)=true:=decide_eq_true (by omega);have f4:IntKind.i64.wrap ((i:Int)+1)=((i+1:Nat):Int):=by rw[IntWalk.i64_in _ (by omega)];omega
  have f5:(i:Int)<8:=by omega
  have hnH:hb≠H:=by omega
  have hnb:b≠H:=by omega
  clear hHb hhb hbb;conv=>arg 2;whnf
  refine wp_seq ?_;refine wp_region_list ?_;show wpList _ _ _ [_] _ _
  refine tail_op rfl (fun K hK=>?_);have q267:=gd s267;go_simp;clear q267;refine hK _ _ ?_;clear hK K;refine act_put (d:=268) _ hs hd (by decide) [(0,_),(3,_),(4,_),(5,_),(6,_),(8,_),(9,_),(16,_),(267,_)] ⟨s0,s3,s4,s5,s6,s8,s9,s16,s267,trivial⟩ rfl ?_;clear hs hd s0 s3 s4 s5 s6 s8 s9 s16 s267;intro a hs hd zl;refine wp_seq ?_;refine wp_cond_true (vL zl 0) ?_;refine wp_skip ?_;refine wp_seq ?_;refine wp_block ?_;refine wp_seq ?_;refine fl2 [.eq 269 _] 1 hs hd zl
   ⟨sP bq,
    trivial⟩ ?_
  clear hs hd zl;intro a w hb hs hd zl hh;replace zl:=lH hh 0 zl;clear hh;replace hSS:=hSS.after hb;replace hM:=hM.after hb;replace hH:=hH.after hb;clear hb;refine wn 1 ?_;clear hs hd zl;intro a hs hd zl;obtain⟨xs,hxs⟩:∃x,Is (nth8 S i) x:=is_self _;obtain⟨xr,hxr⟩:∃x,Is (nth8 R i) x:=is_self _;have cH:w.cell? ⟨H,i,none⟩=some (.int .u32 xs):=by rw[hSS.2.1.cell,addK_get S R h8,hxs.out]
  have ch:w.cell? ⟨hb,i,none⟩=some (.int .u32 xr):=by rw[hH.get h8,hxr.out]
  refine fl2 [.eq 270 _,.eq 271 _,.eq 272 _,.eq 273 _,.eq 274 _,.eq 275 _,.eq 276 _,.eq 277 _,.eq 278 _] 9 hs hd zl
   ⟨sP bq,
    sP bq,
    (stp rfl fun a u hb hs hl hd K hK=>by have s271:=gD hd 1;have cH:=cell_up hb cH;have ch:=cell_up hb ch;clear hd;go_simp;exact kE hK hs),
    (stp rfl fun a u hb hs hl hd K hK=>by have s16:=gL hl 10;clear hd;go_simp;exact kE hK hs),
    (stp rfl fun a u hb hs hl hd K hK=>by have s23:=gL hl 0;clear hd;go_simp;exact kE hK hs),
    (stp rfl fun a u hb hs hl hd K hK=>by have s273:=gD hd 3;have s274:=gD hd 4;clear hd;go_simp;exact kE hK hs),
    (stp rfl fun a u hb hs hl hd K hK=>by have s275:=gD hd 5;have cH:=cell_up hb cH;have ch:=cell_up hb ch;clear hd;go_simp;exact kE hK hs),
    (stp rfl fun a u hb hs hl hd K hK=>by have s272:=gD hd 2;have s276:=gD hd 6;clear hd;go_simp;exact kE hK hs),
    (stp rfl fun a u hb hs hl hd K hK=>by have s3:=gL hl 4;have s270:=gD hd 0;clear hd;go_simp;exact kE hK hs),
    trivial⟩ ?_
  clear hs hd zl;intro a w hb hs hd zl hh;replace zl:=lH hh 7 zl;replace zl:=lH hh 8 zl;clear hh;replace hSS:=hSS.after hb;replace hM:=hM.after hb;replace hH:=hH.after hb;replace cH:=cell_up hb cH;replace ch:=cell_up hb ch;clear hb;show wpList _ _ _ [_] _ _
  refine tail_op rfl (fun K hK=>?_);have q277:=gL zl 1;have q278:=gL zl 0;obtain⟨z,hz⟩:∃z,Is (add32 xs xr) z:=is_self _;obtain⟨s278,s277,-,-,-,s0,s3,s4,s5,s6,s8,s9,s16,s267,-⟩:=zl;have s277':a.tmps.getD 277 undef=.int .u32 (add32 xs xr):=s277;rw[hz.out]at s277';clear s277 q277;have q277:=gd s277';have hfr:=hSS.2.1.free i;go_simp;clear hfr s277' cH;clear q277 q278;refine hK _ _ ?_;clear hK K;change wpList _ _ _ _ a _;replace hM:=hM.gb (gb1 w H i (.int .u32 z)) hnb;replace hH:=hH.gb (gb1 w H i (.int .u32 z)) hnH;replace hSS:=hSS.put (i:=i) (v:=.int .u32 z) (S':=addK S R (i+1)) (by rw[← hz.out,← hxs.out,← hxr.out];exact addK_set S R h8);revert hSS hM hH;generalize World.setCell _ _ _=w;intro hM hH hSS;clear s278;clear ch;refine fl2 (F:=[(0,_),(3,_),(4,_),(5,_),(6,_),(8,_),(9,_),(16,_),(267,_)]) [.eq 279 _] 1 hs hd ⟨s0,s3,s4,s5,s6,s8,s9,s16,s267,trivial⟩
   ⟨sP bq,
    trivial⟩ ?_
  clear hs hd s0 s3 s4 s5 s6 s8 s9 s16 s267;intro a w hb hs hd zl hh;replace zl:=lH hh 0 zl;clear hh;replace hSS:=hSS.after hb;replace hM:=hM.after hb;replace hH:=hH.after hb;clear hb;show wpList _ _ _ [_] _ _
  refine tail_op rfl (fun K hK=>?_);have q279:=gL zl 0;go_simp;clear q279;refine hK _ _ ?_;clear hK K;obtain⟨s279,s0,s3,s4,s5,s6,s8,s9,s16,s267,-⟩:=zl;refine act_put (d:=267) _ hs hd (by decide) [(0,_),(3,_),(4,_),(5,_),(6,_),(8,_),(9,_),(16,_),(279,_)] ⟨s0,s3,s4,s5,s6,s8,s9,s16,s279,trivial⟩ rfl ?_;clear hs hd s0 s3 s4 s5 s6 s8 s9 s16 s267 s279;intro a hs hd zl;obtain⟨s267,s0,s3,s4,s5,s6,s8,s9,s16,-,-⟩:=zl;refine⟨⟨i+1,by omega,hs,hd,⟨s0,s3,s4,s5,s6,s8,s9,s16,s267,trivial⟩,hSS,hM,hH⟩,?_⟩;rw[s267];simp[intOf];omega
 ·obtain rfl:i=8:=by omega
  have e1:decide ((8:Nat)<8)=false:=by decide
  rw[addK_all]at hSS;conv=>arg 2;whnf
  refine wp_seq ?_;refine wp_region_list ?_;show wpList _ _ _ [_] _ _
  refine tail_op rfl (fun K hK=>?_);have q267:=gd s267;go_simp;clear q267;refine hK _ _ ?_;clear hK K;refine act_put (d:=268) _ hs hd (by decide) [(0,_),(3,_),(4,_),(5,_),(6,_),(8,_),(9,_),(16,_),(267,_)] ⟨s0,s3,s4,s5,s6,s8,s9,s16,s267,trivial⟩ rfl ?_;clear hs hd s0 s3 s4 s5 s6 s8 s9 s16 s267;intro a hs hd zl;refine wp_seq ?_;refine wp_cond_false (vL zl 0) ?_;refine wp_exit ?_;obtain⟨s268,s0,s3,s4,s5,s6,s8,s9,s16,s267,-⟩:=zl;exact hQ a w hs hd ⟨s0,s3,s4,s5,s6,s8,s9,trivial⟩ hSS hM
theorem u32_info:(Tryz.prog.info? 96).map (fun i=>(i.zero,i.size,i.bytes))=some (some (.int .u32 0),1,4):=by kernel_rfl
theorem op_app_h{o:Oper}{a:Act}{w:World}{Q:Exit→Act→World→Prop}{K:Act→World→Prop}(s x:Operand)(ho:o.op=.call {callee:=.builtin .append,args:=#[s,x],argTypes:=#[103,103]})
  {H c2:Nat}{t:TypeId}{S:ShaSt}(hs:a.eval s=.slice none 0 0)(hx:a.eval x=.slice (some ⟨H,0,none⟩) 8 c2)(hg:Blk w H t (st8 S))
  (h:∀(hb c':Nat) (w':World),Below w.heap.size w w'→w.heap.size≤hb→Ho w' hb S→K (a.put o.dst (.slice (some ⟨hb,0,none⟩) 8 c')) w'):o.wp Tryz.prog a w K Q:=by
 obtain⟨i0,hi0,hz0,hz1,hz2⟩:=info_parts u32_info;have hcells:∀(j:Nat) (u:Value),(st8 S).toList[j]?=some u→w.cell? ((⟨H,0,none⟩:Addr).add j)=some u:=by
  intro j u hu;have hadd:(⟨H,0,none⟩:Addr).add j=⟨H,j,none⟩:=by unfold Addr.add;split <;> simp_all
  rw[hadd,hg.cell,← Array.getElem?_toList];exact hu
 obtain⟨v',w',hrun,h2,h3,_,h5⟩:=run_append_own_at (P:=Tryz.prog) w w.heap.size 103 o.type 96 i0 (.int .u32 0) 1 4 Tryz.underlying103 hi0 hz0 hz1 hz2 rfl (by decide) _ _ _ (World.ownsRow_nil w w.heap.size _ 1) ⟨H,0,none⟩ 8 c2 (st8 S).toList rfl
  hcells (one_u32 [S.a,S.b,S.c,S.d,S.e,S.f,S.g,S.h]) (by decide) (by decide) (Nat.le_refl _)
 have hB:Below w.heap.size w w':=⟨h3.os,h3.tape,h3.output,h3.size,fun k hk=>h3.block k hk (by simp[Value.ownBlock])⟩;rcases h2.2 with⟨_,h0⟩|⟨g,cap,cur,h1,hge,hgb,_,_,_,htk⟩
 ·simp at h0
 ·subst h1;have hc:∀j:Nat,j<8→w'.cell? ⟨g,j,none⟩=(st8 S)[j]?:=by
   intro j hj;have hb:Blk w' g _ cur:=hgb;have hlen:cur.toList.take 8=(st8 S).toList:=by simpa using htk
   rw[hb.cell,← Array.getElem?_toList,← Array.getElem?_toList,← hlen,List.getElem?_take,if_pos hj]
  unfold Oper.wp execOp;simp only[ho,resolve,invoke,builtin,Sem.run_bind,Sem.run_pure,Result.andThen_ok,List.map_toArray,List.map_cons,List.map_nil,hs,hx,hrun];exact h g cap w' hB hge ⟨hc 0 (by decide),hc 1 (by decide),hc 2 (by decide),hc 3 (by decide),hc 4 (by decide),hc 5 (by decide),hc 6 (by decide),hc 7 (by decide)⟩
theorem shaBlks_succ(b:List Int)(p k:Nat)(s:ShaSt):shaBlks b p (k+1) s=shaBlk b (p+64*k) (shaBlks b p k s):=by rw[shaBlks_add];rfl
theorem zs32_get{n j:Nat}(h:j<n):(zs32 n)[j]?=some (.int .u32 0):=by
 unfold zs32;rw[List.getElem?_toArray,List.getElem?_replicate,if_pos h]
theorem SchZ.new{w:World}{B:Nat}{P:List Int}{p:Nat}(h:Blk w B 99 (zs32 64)):SchZ w B P p 0 0:=
 ⟨_,h,by simp[zs32],fun j hj=>absurd hj (Nat.not_lt_zero j),fun hj=>zs32_get hj,fun j _ hj=>zs32_get hj⟩
theorem ss_blocks{Q:Exit→Act→World→Prop}{B1 H KR n N b o c:Nat}{v0:Value}{w0:World}{P:List Int}(a:Act)(w:World)(hs:SzIs a 300)(hd:DfNil a)
  (s0:a.tmps.getD 0 undef=v0)(s3:a.tmps.getD 3 undef=.pointer (some ⟨H,0,none⟩))(s4:a.tmps.getD 4 undef=.pointer (some ⟨KR,0,none⟩))(s5:a.tmps.getD 5 undef=.int .i64 ((n:Nat):Int))(s6:a.tmps.getD 6 undef=.slice (some ⟨b,o,none⟩) N c)(s8:a.tmps.getD 8 undef=(Value.func (Fn.func 43) #[] #[]))(s9:a.tmps.getD 9 undef=.int .i64 0)
  (hN:N % 64=0)(hN2:N≤1000000000000)(hP8:Bytes P)(hbb:B1≤b)(hSS:SS w0 w B1 H KR sha0)(hM:BytesAt w b o P 0 N)
  (hQ:∀(a:Act) (w:World),SzIs a 300→DfNil a→LiveAll [(0,v0),(3,.pointer (some ⟨H,0,none⟩)),(4,.pointer (some ⟨KR,0,none⟩)),(5,.int .i64 ((n:Nat):Int)),(6,.slice (some ⟨b,o,none⟩) N c),(8,(Value.func (Fn.func 43) #[] #[]))] a→SS w0 w B1 H KR (shaBlks P 0 (N / 64) sha0)→Q (.exit 4) a w):
  (Code.loop (ssB 4)).wp Tryz.prog Q a w:=by
 refine wp_loop (fun a w=>∃k p:Nat,Is p (64*k)∧p≤N∧SzIs a 300∧DfNil a∧LiveAll [(0,v0),(3,.pointer (some ⟨H,0,none⟩)),(4,.pointer (some ⟨KR,0,none⟩)),(5,.int .i64 ((n:Nat):Int)),(6,.slice (some ⟨b,o,none⟩) N c),(8,(Value.func (Fn.func 43) #[] #[])),(9,.int .i64 ((p:Nat):Int))] a∧SS w0 w B1 H KR (shaBlks P 0 k sha0)∧BytesAt w b o P 0 N)
  (fun a _=>N-(intOf (a.tmps.getD 9 undef)).toNat) ⟨0,0,rfl,Nat.zero_le _,hs,hd,⟨s0,s3,s4,s5,s6,s8,s9,trivial⟩,hSS,hM⟩ ?_
 clear hs hd s0 s3 s4 s5 s6 s8 s9 hSS hM a w;rintro a w ⟨k,p,hp,hpN,hs,hd,⟨s0,s3,s4,s5,s6,s8,s9,-⟩,hSS,hM⟩;have hm:(intOf (a.tmps.getD 9 undef)).toNat=p:=by rw[s9];simp[intOf]
 rw[hm];clear hm;have hpv:=hp.out;by_cases hpl:p<N
 ·have e1:decide (p<N)=true:=decide_eq_true hpl;have e2:decide ((p:Int)<(N:Int))=true:=decide_eq_true (by omega);have f4:IntKind.i64.wrap ((p:Int)+64)=((p+64:Nat):Int):=by rw[IntWalk.i64_in _ (by omega)];omega
  have hpN64:p+64≤N:=by omega
  obtain⟨S,hS⟩:∃S,Is (shaBlks P 0 k sha0) S:=is_self _;rw[hS.out]at hSS;have hpK:=Is.hid hpv;clear hpv;conv=>arg 2;whnf
  refine wp_seq ?_;refine wp_seq ?_;refine fl2 (F:=[(0,_),(3,_),(4,_),(5,_),(6,_),(8,_),(9,_)]) [.eq 56 _,.eq 57 _,.eq 58 _] 3 hs hd ⟨s0,s3,s4,s5,s6,s8,s9,trivial⟩
   ⟨sP bq,
    sP bq,
    sP bq,
    trivial⟩ ?_
  clear hs hd s0 s3 s4 s5 s6 s8 s9;intro a w hb hs hd zl hh;replace zl:=lH hh 0 zl;replace zl:=lH hh 2 zl;clear hh;replace hSS:=hSS.after hb;replace hM:=hM.after hb;clear hb;refine wn 1 ?_;clear hs hd zl;intro a hs hd zl;refine wp_cond_true (vL zl 0) ?_;refine wp_skip ?_;refine wp_seq ?_;refine wp_block ?_;refine wp_seq ?_;refine wp_region_list ?_;show wpList _ _ _ [_] _ _
  refine tail_op rfl (fun K hK=>?_);go_simp;refine hK _ _ (tP hs hd zl ?_);clear hK K hs hd zl;intro a hs hd zl;obtain⟨WB,hE⟩:∃B,Is w.heap.size B:=is_self _;have hWB:B1≤WB:=by rw[← hE.out];exact hSS.2.2.2.2.2.2.2.2
  have hbW:b≠WB:=by have:=World.block_lt_of_cell? w _ (hM 0 (by omega));rw[← hE.out];exact Nat.ne_of_lt this
  generalize hw1:World.alloc w _=w1;have hW:SchZ w1 WB P p 0 0:=by rw[← hw1,← hE.out];exact SchZ.new (Blk.new w _ _)
  have hB1:Below w.heap.size w w1:=by rw[← hw1];exact bz_alloc (bz_refl w) _
  replace hSS:=hSS.after hB1;replace hM:=hM.after hB1;obtain⟨s10,s59,-,-,s0,s3,s4,s5,s6,s8,s9,-⟩:=zl;rw[hE.out]at s10;clear hw1 hB1 hE;clear s59;refine wp_seq ?_;refine wp_seq ?_;refine wp_region_list ?_;show wpList _ _ _ [_] _ _
  refine tail_op rfl (fun K hK=>?_);go_simp;refine hK _ _ ?_;clear hK K;refine act_put (d:=62) _ hs hd (by decide) [(0,_),(3,_),(4,_),(5,_),(6,_),(8,_),(9,_),(10,_)] ⟨s0,s3,s4,s5,s6,s8,s9,s10,trivial⟩ rfl ?_;clear hs hd s0 s3 s4 s5 s6 s8 s9 s10;intro a hs hd zl;refine wp_block ?_;obtain⟨s62,s0,s3,s4,s5,s6,s8,s9,s10,-⟩:=zl;refine ss_first a _ hs hd s0 s3 s4 s5 s6 s8 s9 s10 s62 hpN64 hN2 hP8 hWB hbW hSS hW hM ?_;clear hs hd s0 s3 s4 s5 s6 s8 s9 s10 s62 hSS hW hM;rintro a w hs hd ⟨s0,s3,s4,s5,s6,s8,s9,s10,-⟩ hSS hW hM;refine inBlock_exit ?_;refine wp_seq ?_;refine wp_seq ?_;refine wp_region_list ?_;show wpList _ _ _ [_] _ _
  refine tail_op rfl (fun K hK=>?_);go_simp;refine hK _ _ ?_;clear hK K;refine act_put (d:=13) _ hs hd (by decide) [(0,_),(3,_),(4,_),(5,_),(6,_),(8,_),(9,_),(10,_)] ⟨s0,s3,s4,s5,s6,s8,s9,s10,trivial⟩ rfl ?_;clear hs hd s0 s3 s4 s5 s6 s8 s9 s10;intro a hs hd zl;refine wp_block ?_;obtain⟨s13,s0,s3,s4,s5,s6,s8,s9,s10,-⟩:=zl;refine ss_more a _ hs hd s0 s3 s4 s5 s6 s8 s9 s10 s13 hWB hbW hSS hW hM ?_;clear hs hd s0 s3 s4 s5 s6 s8 s9 s10 s13 hSS hW hM;rintro a w hs hd ⟨s0,s3,s4,s5,s6,s8,s9,s10,-⟩ hSS hW hM;refine inBlock_exit ?_;refine wp_seq ?_;refine fl2 (F:=[(0,_),(3,_),(4,_),(5,_),(6,_),(8,_),(9,_),(10,_)]) [.eq 144 _] 1 hs hd ⟨s0,s3,s4,s5,s6,s8,s9,s10,trivial⟩
   ⟨sP bq,
    trivial⟩ ?_
  clear hs hd s0 s3 s4 s5 s6 s8 s9 s10;intro a w hb hs hd zl hh;replace zl:=lH hh 0 zl;clear hh;replace hSS:=hSS.after hb;replace hW:=hW.after hb;replace hM:=hM.after hb;clear hb;show wpList _ _ _ [_,_] _ _
  refine tail_op rfl (fun K hK=>?_);have q144:=gL zl 0;have s144:=vL zl 0;refine op_app_h (.const (Value.slice none 0 0)) (.tmp 144) rfl rfl s144 hSS.2.1 ?_;intro hb c1 w2 hbel hhb hH;clear q144;refine hK _ _ (tP hs hd zl ?_);clear hK K hs hd zl s144;intro a hs hd zl;replace hhb:=Nat.le_trans hSS.2.2.2.2.2.2.2.2 hhb;replace hSS:=hSS.after hbel;replace hW:=hW.after hbel;replace hM:=hM.after hbel;clear hbel;refine wn 2 ?_;clear hs hd zl;intro a hs hd zl;refine wp_block ?_;obtain⟨s146,s16,-,-,s0,s3,s4,s5,s6,s8,s9,s10,-⟩:=zl;refine ss_rounds a _ hs hd s0 s3 s4 s5 s6 s8 s9 s10 s16 s146 hSS hW hM hH hhb ?_;clear hs hd s0 s3 s4 s5 s6 s8 s9 s10 s16 s146 hSS hW hM hH hhb;rintro a w hb2 c2 R hR hs hd ⟨s0,s3,s4,s5,s6,s8,s9,s10,s16,-⟩ hSS hM hH hhb2;refine inBlock_exit ?_;refine wp_seq ?_;refine wp_region_list ?_;show wpList _ _ _ [_] _ _
  refine tail_op rfl (fun K hK=>?_);go_simp;refine hK _ _ ?_;clear hK K;refine act_put (d:=267) _ hs hd (by decide) [(0,_),(3,_),(4,_),(5,_),(6,_),(8,_),(9,_),(10,_),(16,_)] ⟨s0,s3,s4,s5,s6,s8,s9,s10,s16,trivial⟩ rfl ?_;clear hs hd s0 s3 s4 s5 s6 s8 s9 s10 s16;intro a hs hd zl;refine wp_block ?_;obtain⟨s267,s0,s3,s4,s5,s6,s8,s9,-,s16,-⟩:=zl;refine ss_end a _ hs hd s0 s3 s4 s5 s6 s8 s9 s16 s267 hSS hM hH hhb2 hbb ?_;clear hs hd s0 s3 s4 s5 s6 s8 s9 s16 s267 hSS hM hH hhb2;rintro a w hs hd ⟨s0,s3,s4,s5,s6,s8,s9,-⟩ hSS hM;refine inBlock_exit ?_;refine fl2 (F:=[(0,_),(3,_),(4,_),(5,_),(6,_),(8,_),(9,_)]) [.eq 60 _,.eq 61 _] 2 hs hd ⟨s0,s3,s4,s5,s6,s8,s9,trivial⟩
   ⟨sP bq,
    sP bq,
    trivial⟩ ?_
  clear hs hd s0 s3 s4 s5 s6 s8 s9;intro a w hb hs hd zl hh;replace zl:=lH hh 1 zl;clear hh;replace hSS:=hSS.after hb;replace hM:=hM.after hb;clear hb;show wpList _ _ _ [_] _ _
  refine tail_op rfl (fun K hK=>?_);have q61:=gL zl 0;go_simp;clear q61;refine hK _ _ ?_;clear hK K;obtain⟨s61,s0,s3,s4,s5,s6,s8,s9,-⟩:=zl;refine act_put (d:=9) _ hs hd (by decide) [(0,_),(3,_),(4,_),(5,_),(6,_),(8,_),(61,_)] ⟨s0,s3,s4,s5,s6,s8,s61,trivial⟩ rfl ?_;clear hs hd s0 s3 s4 s5 s6 s8 s9 s61;intro a hs hd zl;obtain⟨s9,s0,s3,s4,s5,s6,s8,-,-⟩:=zl;refine⟨⟨k+1,p+64,by unfold Is;have:=hpK.out;omega,hpN64,hs,hd,⟨s0,s3,s4,s5,s6,s8,s9,trivial⟩,?_,hM⟩,?_⟩
  ·rw[shaBlks_succ,hS.out,Nat.zero_add,← hpK.out];unfold shaBlk;rw[← hR.out];exact hSS
  ·rw[s9];simp[intOf];omega
 ·obtain rfl:p=N:=by omega
  have e1:decide (p<p)=false:=decide_eq_false (by omega);have hk:k=p / 64:=by omega
  rw[hk]at hSS;clear hk hpv;conv=>arg 2;whnf
  refine wp_seq ?_;refine wp_seq ?_;refine fl2 (F:=[(0,_),(3,_),(4,_),(5,_),(6,_),(8,_),(9,_)]) [.eq 56 _,.eq 57 _,.eq 58 _] 3 hs hd ⟨s0,s3,s4,s5,s6,s8,s9,trivial⟩
   ⟨sP bq,
    sP bq,
    sP bq,
    trivial⟩ ?_
  clear hs hd s0 s3 s4 s5 s6 s8 s9;intro a w hb hs hd zl hh;replace zl:=lH hh 0 zl;replace zl:=lH hh 2 zl;clear hh;replace hSS:=hSS.after hb;replace hM:=hM.after hb;clear hb;refine wn 1 ?_;clear hs hd zl;intro a hs hd zl;refine wp_cond_false (vL zl 0) ?_;refine wp_exit ?_;obtain⟨s59,-,-,s0,s3,s4,s5,s6,s8,s9,-⟩:=zl;exact hQ a w hs hd ⟨s0,s3,s4,s5,s6,s8,trivial⟩ hSS
theorem ss_out{Q:Exit→Act→World→Prop}{S:ShaSt}{w0:World}(a:Act)(w:World)(hs:SzIs a 300)(hd:DfNil a)
  (s24:a.tmps.getD 24 undef=.slice none 0 0)(s280:a.tmps.getD 280 undef=.agg (st8 S))(s281:a.tmps.getD 281 undef=.int .i64 0)(hU:St32 S)(hB:Below w0.heap.size w0 w)
  (hQ:∀(a:Act) (w:World) (A:Option Addr) (c:Nat) (P:List Int),Is P (shaOut S)→SzIs a 300→DfNil a→LiveAll [(24,.slice A P.length c)] a→Below w0.heap.size w0 w→OwnB w0.heap.size w A c P→Q (.exit 16) a w):
  (Code.loop (ssB 16)).wp Tryz.prog Q a w:=by
 unfold st8 at s280;obtain⟨P0,hP0⟩:∃P,Is ([]:List Int) P:=is_self _;have hown:OwnB w0.heap.size w none 0 P0:=by rw[← hP0.out];exact OwnB.nil _ _
 replace s24:a.tmps.getD 24 undef=.slice none P0.length 0:=by rw[← hP0.out];exact s24
 have hPl:P0.length=0:=by rw[← hP0.out];rfl
 have hPH:=Is.hid hPl;clear hPl;refine wp_loop_rounds 9 ?_;change Code.wp _ (ssB 16) (Exit.then (Code.rounds _ _ _ 8) _) _ _;conv=>arg 2;whnf
 refine wp_seq ?_;refine wp_region_list ?_;show wpList _ _ _ [_] _ _
 refine tail_op rfl (fun K hK=>?_);have q281:=gd s281;go_simp;clear q281;refine hK _ _ ?_;clear hK K;refine act_put (d:=282) _ hs hd (by decide) [(24,_),(280,_),(281,_)] ⟨s24,s280,s281,trivial⟩ rfl ?_;clear hs hd s24 s280 s281;intro a hs hd zl;refine wp_seq ?_;refine wp_cond_true (vL zl 0) ?_;refine wp_skip ?_;refine wp_seq ?_;refine wp_block ?_;refine wp_seq ?_;refine fl2 [.eq 283 _] 1 hs hd zl
  ⟨(stp rfl fun a u hb hs hl hd K hK=>by have s280:=gL hl 2;have s281:=gL hl 3;clear hd;go_simp;exact kE hK hs),
   trivial⟩ ?_
 clear hs hd zl;intro a w hb hs hd zl hh;replace zl:=lH hh 0 zl;clear hh;replace hown:=hown.after hb;replace hB:=bz_then hB hb;clear hb;show wpList _ _ _ [_] _ _
 refine tail_op rfl (fun K hK=>?_);have q283:=gL zl 0;go_simp;clear q283;refine hK _ _ (tP hs hd zl ?_);clear hK K hs hd zl;intro a hs hd zl;have hu:U32 S.a:=by have h:=hU;unfold St32 at h;simp only[h]
 unfold U32 at hu;have w1:IntKind.u8.wrap (S.a / 16777216)=S.a / 16777216:=(IntKind.wrap_u8' _).trans (by omega);have w2:IntKind.u8.wrap (S.a / 65536)=S.a / 65536 % 256:=IntKind.wrap_u8' _;have w3:IntKind.u8.wrap (S.a / 256)=S.a / 256 % 256:=IntKind.wrap_u8' _;have w4:IntKind.u8.wrap S.a=S.a % 256:=IntKind.wrap_u8' _;have w5:IntKind.u8.wrap (S.a.fdiv 16777216)=S.a / 16777216:=by rw[Int.fdiv_eq_ediv_of_nonneg _ (by decide)];exact w1
 have w6:IntKind.u8.wrap (S.a.fdiv 65536)=S.a / 65536 % 256:=by rw[Int.fdiv_eq_ediv_of_nonneg _ (by decide)];exact w2
 have w7:IntKind.u8.wrap (S.a.fdiv 256)=S.a / 256 % 256:=by rw[Int.fdiv_eq_ediv_of_nonneg _ (by decide)];exact w3
 clear hu;refine fl2 [.eq 284 _,.eq 285 _,.eq 286 _,.eq 287 _,.eq 288 _,.eq 289 _,.eq 290 _,.eq 291 _,.eq 292 _,.eq 293 _,.eq 294 _,.eq 295 _] 12 hs hd zl
  ⟨(stp rfl fun a u hb hs hl hd K hK=>by have s24:=gL hl 3;clear hd;go_simp;exact kE hK hs),
   (stp rfl fun a u hb hs hl hd K hK=>by have s26:=gL hl 0;clear hd;go_simp;exact kE hK hs),
   (stp rfl fun a u hb hs hl hd K hK=>by have s285:=gD hd 1;clear hd;go_simp;exact kE hK hs),
   (stp rfl fun a u hb hs hl hd K hK=>by have s286:=gD hd 2;clear hd;go_simp;exact kE hK hs),
   (stp rfl fun a u hb hs hl hd K hK=>by have s26:=gL hl 0;clear hd;go_simp;exact kE hK hs),
   (stp rfl fun a u hb hs hl hd K hK=>by have s288:=gD hd 4;clear hd;go_simp;exact kE hK hs),
   (stp rfl fun a u hb hs hl hd K hK=>by have s289:=gD hd 5;clear hd;go_simp;exact kE hK hs),
   (stp rfl fun a u hb hs hl hd K hK=>by have s26:=gL hl 0;clear hd;go_simp;exact kE hK hs),
   (stp rfl fun a u hb hs hl hd K hK=>by have s291:=gD hd 7;clear hd;go_simp;exact kE hK hs),
   (stp rfl fun a u hb hs hl hd K hK=>by have s292:=gD hd 8;clear hd;go_simp;exact kE hK hs),
   (stp rfl fun a u hb hs hl hd K hK=>by have s26:=gL hl 0;clear hd;go_simp;exact kE hK hs),
   (stp rfl fun a u hb hs hl hd K hK=>by have s294:=gD hd 10;clear hd;go_simp;exact kE hK hs),
   trivial⟩ ?_
 clear hs hd zl;intro a w hb hs hd zl hh;replace zl:=lH hh 0 zl;replace zl:=lH hh 3 zl;replace zl:=lH hh 6 zl;replace zl:=lH hh 9 zl;replace zl:=lH hh 11 zl;clear hh;replace hown:=hown.after hb;replace hB:=bz_then hB hb;clear hb;show wpList _ _ _ [_,_,_] _ _
 refine tail_op rfl (fun K hK=>?_);have q287:=gL zl 3;have q290:=gL zl 2;have q293:=gL zl 1;have q295:=gL zl 0;go_simp;clear q287 q290 q293 q295;refine hK _ _ (tP hs hd zl ?_);clear hK K hs hd zl;intro a hs hd zl;clear w1 w2 w3 w4 w5 w6 w7;generalize hw1:World.alloc w _=u1;have hbs:Bs u1 (some ⟨w.heap.size,0,none⟩) (be32 S.a):=by rw[← hw1];exact bs_u8s (Blk.new w 5 _)
 have hB1:Below w.heap.size w u1:=by rw[← hw1];exact bz_alloc (bz_refl w) _
 replace hB:=bz_then hB hB1;replace hown:=hown.after hB1;clear hw1 hB1;refine tail_op rfl (fun K hK=>?_);have q284:=gL zl 5;have q296:=gL zl 0;have s284:=vL zl 5;have s296:=vL zl 0;refine op_app_u8 (.tmp 284) (.tmp 296) rfl (l2:=be32 S.a) (c2:=4) s284 s296 hown hbs (by have:=hPH.out;rw[this];simp[be32]) hB.size ?_;intro l1 A1 c1 u2 hl1 _ hown1 hbel _ _;clear q284 q296;refine hK _ _ (tP hs hd zl ?_);clear hK K hs hd zl s284 s296;intro a hs hd zl;replace hB:=hB.trans hbel;have hPl:l1.length=4:=by rw[hl1.out,List.length_append,hPH.out];rfl
 replace hP0:Is (([]:List Int)++be32 S.a) l1:=(by have h1:=hl1.out;rw[← hP0.out]at h1;exact h1.symm);clear hPH hown hbs hbel hl1;have hPH:=Is.hid hPl;have hown:=hown1;clear hPl hown1;refine tail_op rfl (fun K hK=>?_);have q297:=gL zl 0;go_simp;clear q297;refine hK _ _ ?_;clear hK K;obtain⟨s297,s296,s295,s293,s290,s287,s284,-,-,-,s24,s280,s281,-⟩:=zl;refine act_put (d:=24) _ hs hd (by decide) [(280,_),(281,_),(284,_),(287,_),(290,_),(293,_),(295,_),(296,_),(297,_)] ⟨s280,s281,s284,s287,s290,s293,s295,s296,s297,trivial⟩ rfl ?_;clear hs hd s24 s280 s281 s284 s287 s290 s293 s295 s296 s297;intro a hs hd zl;refine fl2 [.eq 298 _] 1 hs hd zl
  ⟨(stp rfl fun a u hb hs hl hd K hK=>by have s281:=gL hl 2;clear hd;go_simp;exact kE hK hs),
   trivial⟩ ?_
 clear hs hd zl;intro a w hb hs hd zl hh;replace zl:=lH hh 0 zl;clear hh;replace hown:=hown.after hb;replace hB:=bz_then hB hb;clear hb;show wpList _ _ _ [_] _ _
 refine tail_op rfl (fun K hK=>?_);have q298:=gL zl 0;go_simp;clear q298;refine hK _ _ ?_;clear hK K;obtain⟨s298,s24,s280,s281,-,-,-,-,-,-,-,-⟩:=zl;refine act_put (d:=281) _ hs hd (by decide) [(24,_),(280,_),(298,_)] ⟨s24,s280,s298,trivial⟩ rfl ?_;clear hs hd s24 s280 s281 s298;intro a hs hd zl;change Code.wp _ (ssB 16) (Exit.then (Code.rounds _ _ _ 7) _) _ _;conv=>arg 2;whnf
 refine wp_seq ?_;refine wp_region_list ?_;show wpList _ _ _ [_] _ _
 refine tail_op rfl (fun K hK=>?_);have q281:=gL zl 0;go_simp;clear q281;refine hK _ _ (tP hs hd zl ?_);clear hK K hs hd zl;intro a hs hd zl;refine wp_seq ?_;refine wp_cond_true (vL zl 0) ?_;refine wp_skip ?_;refine wp_seq ?_;refine wp_block ?_;refine wp_seq ?_;refine fl2 [.eq 283 _] 1 hs hd zl
  ⟨(stp rfl fun a u hb hs hl hd K hK=>by have s280:=gL hl 3;have s281:=gL hl 1;clear hd;go_simp;exact kE hK hs),
   trivial⟩ ?_
 clear hs hd zl;intro a w hb hs hd zl hh;replace zl:=lH hh 0 zl;clear hh;replace hown:=hown.after hb;replace hB:=bz_then hB hb;clear hb;show wpList _ _ _ [_] _ _
 refine tail_op rfl (fun K hK=>?_);have q283:=gL zl 0;go_simp;clear q283;refine hK _ _ (tP hs hd zl ?_);clear hK K hs hd zl;intro a hs hd zl;have hu:U32 S.b:=by have h:=hU;unfold St32 at h;simp only[h]
 unfold U32 at hu;have w1:IntKind.u8.wrap (S.b / 16777216)=S.b / 16777216:=(IntKind.wrap_u8' _).trans (by omega);have w2:IntKind.u8.wrap (S.b / 65536)=S.b / 65536 % 256:=IntKind.wrap_u8' _;have w3:IntKind.u8.wrap (S.b / 256)=S.b / 256 % 256:=IntKind.wrap_u8' _;have w4:IntKind.u8.wrap S.b=S.b % 256:=IntKind.wrap_u8' _;have w5:IntKind.u8.wrap (S.b.fdiv 16777216)=S.b / 16777216:=by rw[Int.fdiv_eq_ediv_of_nonneg _ (by decide)];exact w1
 have w6:IntKind.u8.wrap (S.b.fdiv 65536)=S.b / 65536 % 256:=by rw[Int.fdiv_eq_ediv_of_nonneg _ (by decide)];exact w2
 have w7:IntKind.u8.wrap (S.b.fdiv 256)=S.b / 256 % 256:=by rw[Int.fdiv_eq_ediv_of_nonneg _ (by decide)];exact w3
 clear hu;refine fl2 [.eq 284 _,.eq 285 _,.eq 286 _,.eq 287 _,.eq 288 _,.eq 289 _,.eq 290 _,.eq 291 _,.eq 292 _,.eq 293 _,.eq 294 _,.eq 295 _] 12 hs hd zl
  ⟨(stp rfl fun a u hb hs hl hd K hK=>by have s24:=gL hl 4;clear hd;go_simp;exact kE hK hs),
   (stp rfl fun a u hb hs hl hd K hK=>by have s26:=gL hl 0;clear hd;go_simp;exact kE hK hs),
   (stp rfl fun a u hb hs hl hd K hK=>by have s285:=gD hd 1;clear hd;go_simp;exact kE hK hs),
   (stp rfl fun a u hb hs hl hd K hK=>by have s286:=gD hd 2;clear hd;go_simp;exact kE hK hs),
   (stp rfl fun a u hb hs hl hd K hK=>by have s26:=gL hl 0;clear hd;go_simp;exact kE hK hs),
   (stp rfl fun a u hb hs hl hd K hK=>by have s288:=gD hd 4;clear hd;go_simp;exact kE hK hs),
   (stp rfl fun a u hb hs hl hd K hK=>by have s289:=gD hd 5;clear hd;go_simp;exact kE hK hs),
   (stp rfl fun a u hb hs hl hd K hK=>by have s26:=gL hl 0;clear hd;go_simp;exact kE hK hs),
   (stp rfl fun a u hb hs hl hd K hK=>by have s291:=gD hd 7;clear hd;go_simp;exact kE hK hs),
   (stp rfl fun a u hb hs hl hd K hK=>by have s292:=gD hd 8;clear hd;go_simp;exact kE hK hs),
   (stp rfl fun a u hb hs hl hd K hK=>by have s26:=gL hl 0;clear hd;go_simp;exact kE hK hs),
   (stp rfl fun a u hb hs hl hd K hK=>by have s294:=gD hd 10;clear hd;go_simp;exact kE hK hs),
   trivial⟩ ?_
 clear hs hd zl;intro a w hb hs hd zl hh;replace zl:=lH hh 0 zl;replace zl:=lH hh 3 zl;replace zl:=lH hh 6 zl;replace zl:=lH hh 9 zl;replace zl:=lH hh 11 zl;clear hh;replace hown:=hown.after hb;replace hB:=bz_then hB hb;clear hb;show wpList _ _ _ [_,_,_] _ _
 refine tail_op rfl (fun K hK=>?_);have q287:=gL zl 3;have q290:=gL zl 2;have q293:=gL zl 1;have q295:=gL zl 0;go_simp;clear q287 q290 q293 q295;refine hK _ _ (tP hs hd zl ?_);clear hK K hs hd zl;intro a hs hd zl;clear w1 w2 w3 w4 w5 w6 w7;generalize hw1:World.alloc w _=u1;have hbs:Bs u1 (some ⟨w.heap.size,0,none⟩) (be32 S.b):=by rw[← hw1];exact bs_u8s (Blk.new w 5 _)
 have hB1:Below w.heap.size w u1:=by rw[← hw1];exact bz_alloc (bz_refl w) _
 replace hB:=bz_then hB hB1;replace hown:=hown.after hB1;clear hw1 hB1;refine tail_op rfl (fun K hK=>?_);have q284:=gL zl 5;have q296:=gL zl 0;have s284:=vL zl 5;have s296:=vL zl 0;refine op_app_u8 (.tmp 284) (.tmp 296) rfl (l2:=be32 S.b) (c2:=4) s284 s296 hown hbs (by have:=hPH.out;rw[this];simp[be32]) hB.size ?_;intro l1 A1 c1 u2 hl1 _ hown1 hbel _ _;clear q284 q296;refine hK _ _ (tP hs hd zl ?_);clear hK K hs hd zl s284 s296;intro a hs hd zl;replace hB:=hB.trans hbel;have hPl:l1.length=8:=by rw[hl1.out,List.length_append,hPH.out];rfl
 replace hP0:Is (([]:List Int)++be32 S.a++be32 S.b) l1:=(by have h1:=hl1.out;rw[← hP0.out]at h1;exact h1.symm);clear hPH hown hbs hbel hl1;have hPH:=Is.hid hPl;have hown:=hown1;clear hPl hown1;refine tail_op rfl (fun K hK=>?_);have q297:=gL zl 0;go_simp;clear q297;refine hK _ _ ?_;clear hK K;obtain⟨s297,s296,s295,s293,s290,s287,s284,-,-,-,s281,s24,s280,-,-⟩:=zl;refine act_put (d:=24) _ hs hd (by decide) [(280,_),(281,_),(284,_),(287,_),(290,_),(293,_),(295,_),(296,_),(297,_)] ⟨s280,s281,s284,s287,s290,s293,s295,s296,s297,trivial⟩ rfl ?_;clear hs hd s24 s280 s281 s284 s287 s290 s293 s295 s296 s297;intro a hs hd zl;refine fl2 [.eq 298 _] 1 hs hd zl
  ⟨(stp rfl fun a u hb hs hl hd K hK=>by have s281:=gL hl 2;clear hd;go_simp;exact kE hK hs),
   trivial⟩ ?_
 clear hs hd zl;intro a w hb hs hd zl hh;replace zl:=lH hh 0 zl;clear hh;replace hown:=hown.after hb;replace hB:=bz_then hB hb;clear hb;show wpList _ _ _ [_] _ _
 refine tail_op rfl (fun K hK=>?_);have q298:=gL zl 0;go_simp;clear q298;refine hK _ _ ?_;clear hK K;obtain⟨s298,s24,s280,s281,-,-,-,-,-,-,-,-⟩:=zl;refine act_put (d:=281) _ hs hd (by decide) [(24,_),(280,_),(298,_)] ⟨s24,s280,s298,trivial⟩ rfl ?_;clear hs hd s24 s280 s281 s298;intro a hs hd zl;change Code.wp _ (ssB 16) (Exit.then (Code.rounds _ _ _ 6) _) _ _;conv=>arg 2;whnf
 refine wp_seq ?_;refine wp_region_list ?_;show wpList _ _ _ [_] _ _
 refine tail_op rfl (fun K hK=>?_);have q281:=gL zl 0;go_simp;clear q281;refine hK _ _ (tP hs hd zl ?_);clear hK K hs hd zl;intro a hs hd zl;refine wp_seq ?_;refine wp_cond_true (vL zl 0) ?_;refine wp_skip ?_;refine wp_seq ?_;refine wp_block ?_;refine wp_seq ?_;refine fl2 [.eq 283 _] 1 hs hd zl
  ⟨(stp rfl fun a u hb hs hl hd K hK=>by have s280:=gL hl 3;have s281:=gL hl 1;clear hd;go_simp;exact kE hK hs),
   trivial⟩ ?_
 clear hs hd zl;intro a w hb hs hd zl hh;replace zl:=lH hh 0 zl;clear hh;replace hown:=hown.after hb;replace hB:=bz_then hB hb;clear hb;show wpList _ _ _ [_] _ _
 refine tail_op rfl (fun K hK=>?_);have q283:=gL zl 0;go_simp;clear q283;refine hK _ _ (tP hs hd zl ?_);clear hK K hs hd zl;intro a hs hd zl;have hu:U32 S.c:=by have h:=hU;unfold St32 at h;simp only[h]
 unfold U32 at hu;have w1:IntKind.u8.wrap (S.c / 16777216)=S.c / 16777216:=(IntKind.wrap_u8' _).trans (by omega);have w2:IntKind.u8.wrap (S.c / 65536)=S.c / 65536 % 256:=IntKind.wrap_u8' _;have w3:IntKind.u8.wrap (S.c / 256)=S.c / 256 % 256:=IntKind.wrap_u8' _;have w4:IntKind.u8.wrap S.c=S.c % 256:=IntKind.wrap_u8' _;have w5:IntKind.u8.wrap (S.c.fdiv 16777216)=S.c / 16777216:=by rw[Int.fdiv_eq_ediv_of_nonneg _ (by decide)];exact w1
 have w6:IntKind.u8.wrap (S.c.fdiv 65536)=S.c / 65536 % 256:=by rw[Int.fdiv_eq_ediv_of_nonneg _ (by decide)];exact w2
 have w7:IntKind.u8.wrap (S.c.fdiv 256)=S.c / 256 % 256:=by rw[Int.fdiv_eq_ediv_of_nonneg _ (by decide)];exact w3
 clear hu;refine fl2 [.eq 284 _,.eq 285 _,.eq 286 _,.eq 287 _,.eq 288 _,.eq 289 _,.eq 290 _,.eq 291 _,.eq 292 _,.eq 293 _,.eq 294 _,.eq 295 _] 12 hs hd zl
  ⟨(stp rfl fun a u hb hs hl hd K hK=>by have s24:=gL hl 4;clear hd;go_simp;exact kE hK hs),
   (stp rfl fun a u hb hs hl hd K hK=>by have s26:=gL hl 0;clear hd;go_simp;exact kE hK hs),
   (stp rfl fun a u hb hs hl hd K hK=>by have s285:=gD hd 1;clear hd;go_simp;exact kE hK hs),
   (stp rfl fun a u hb hs hl hd K hK=>by have s286:=gD hd 2;clear hd;go_simp;exact kE hK hs),
   (stp rfl fun a u hb hs hl hd K hK=>by have s26:=gL hl 0;clear hd;go_simp;exact kE hK hs),
   (stp rfl fun a u hb hs hl hd K hK=>by have s288:=gD hd 4;clear hd;go_simp;exact kE hK hs),
   (stp rfl fun a u hb hs hl hd K hK=>by have s289:=gD hd 5;clear hd;go_simp;exact kE hK hs),
   (stp rfl fun a u hb hs hl hd K hK=>by have s26:=gL hl 0;clear hd;go_simp;exact kE hK hs),
   (stp rfl fun a u hb hs hl hd K hK=>by have s291:=gD hd 7;clear hd;go_simp;exact kE hK hs),
   (stp rfl fun a u hb hs hl hd K hK=>by have s292:=gD hd 8;clear hd;go_simp;exact kE hK hs),
   (stp rfl fun a u hb hs hl hd K hK=>by have s26:=gL hl 0;clear hd;go_simp;exact kE hK hs),
   (stp rfl fun a u hb hs hl hd K hK=>by have s294:=gD hd 10;clear hd;go_simp;exact kE hK hs),
   trivial⟩ ?_
 clear hs hd zl;intro a w hb hs hd zl hh;replace zl:=lH hh 0 zl;replace zl:=lH hh 3 zl;replace zl:=lH hh 6 zl;replace zl:=lH hh 9 zl;replace zl:=lH hh 11 zl;clear hh;replace hown:=hown.after hb;replace hB:=bz_then hB hb;clear hb;show wpList _ _ _ [_,_,_] _ _
 refine tail_op rfl (fun K hK=>?_);have q287:=gL zl 3;have q290:=gL zl 2;have q293:=gL zl 1;have q295:=gL zl 0;go_simp;clear q287 q290 q293 q295;refine hK _ _ (tP hs hd zl ?_);clear hK K hs hd zl;intro a hs hd zl;clear w1 w2 w3 w4 w5 w6 w7;generalize hw1:World.alloc w _=u1;have hbs:Bs u1 (some ⟨w.heap.size,0,none⟩) (be32 S.c):=by rw[← hw1];exact bs_u8s (Blk.new w 5 _)
 have hB1:Below w.heap.size w u1:=by rw[← hw1];exact bz_alloc (bz_refl w) _
 replace hB:=bz_then hB hB1;replace hown:=hown.after hB1;clear hw1 hB1;refine tail_op rfl (fun K hK=>?_);have q284:=gL zl 5;have q296:=gL zl 0;have s284:=vL zl 5;have s296:=vL zl 0;refine op_app_u8 (.tmp 284) (.tmp 296) rfl (l2:=be32 S.c) (c2:=4) s284 s296 hown hbs (by have:=hPH.out;rw[this];simp[be32]) hB.size ?_;intro l1 A1 c1 u2 hl1 _ hown1 hbel _ _;clear q284 q296;refine hK _ _ (tP hs hd zl ?_);clear hK K hs hd zl s284 s296;intro a hs hd zl;replace hB:=hB.trans hbel;have hPl:l1.length=12:=by rw[hl1.out,List.length_append,hPH.out];rfl
 replace hP0:Is (([]:List Int)++be32 S.a++be32 S.b++be32 S.c) l1:=(by have h1:=hl1.out;rw[← hP0.out]at h1;exact h1.symm);clear hPH hown hbs hbel hl1;have hPH:=Is.hid hPl;have hown:=hown1;clear hPl hown1;refine tail_op rfl (fun K hK=>?_);have q297:=gL zl 0;go_simp;clear q297;refine hK _ _ ?_;clear hK K;obtain⟨s297,s296,s295,s293,s290,s287,s284,-,-,-,s281,s24,s280,-,-⟩:=zl;refine act_put (d:=24) _ hs hd (by decide) [(280,_),(281,_),(284,_),(287,_),(290,_),(293,_),(295,_),(296,_),(297,_)] ⟨s280,s281,s284,s287,s290,s293,s295,s296,s297,trivial⟩ rfl ?_;clear hs hd s24 s280 s281 s284 s287 s290 s293 s295 s296 s297;intro a hs hd zl;refine fl2 [.eq 298 _] 1 hs hd zl
  ⟨(stp rfl fun a u hb hs hl hd K hK=>by have s281:=gL hl 2;clear hd;go_simp;exact kE hK hs),
   trivial⟩ ?_
 clear hs hd zl;intro a w hb hs hd zl hh;replace zl:=lH hh 0 zl;clear hh;replace hown:=hown.after hb;replace hB:=bz_then hB hb;clear hb;show wpList _ _ _ [_] _ _
 refine tail_op rfl (fun K hK=>?_);have q298:=gL zl 0;go_simp;clear q298;refine hK _ _ ?_;clear hK K;obtain⟨s298,s24,s280,s281,-,-,-,-,-,-,-,-⟩:=zl;refine act_put (d:=281) _ hs hd (by decide) [(24,_),(280,_),(298,_)] ⟨s24,s280,s298,trivial⟩ rfl ?_;clear hs hd s24 s280 s281 s298;intro a hs hd zl;change Code.wp _ (ssB 16) (Exit.then (Code.rounds _ _ _ 5) _) _ _;conv=>arg 2;whnf
 refine wp_seq ?_;refine wp_region_list ?_;show wpList _ _ _ [_] _ _
 refine tail_op rfl (fun K hK=>?_);have q281:=gL zl 0;go_simp;clear q281;refine hK _ _ (tP hs hd zl ?_);clear hK K hs hd zl;intro a hs hd zl;refine wp_seq ?_;refine wp_cond_true (vL zl 0) ?_;refine wp_skip ?_;refine wp_seq ?_;refine wp_block ?_;refine wp_seq ?_;refine fl2 [.eq 283 _] 1 hs hd zl
  ⟨(stp rfl fun a u hb hs hl hd K hK=>by have s280:=gL hl 3;have s281:=gL hl 1;clear hd;go_simp;exact kE hK hs),
   trivial⟩ ?_
 clear hs hd zl;intro a w hb hs hd zl hh;replace zl:=lH hh 0 zl;clear hh;replace hown:=hown.after hb;replace hB:=bz_then hB hb;clear hb;show wpList _ _ _ [_] _ _
 refine tail_op rfl (fun K hK=>?_);have q283:=gL zl 0;go_simp;clear q283;refine hK _ _ (tP hs hd zl ?_);clear hK K hs hd zl;intro a hs hd zl;have hu:U32 S.d:=by have h:=hU;unfold St32 at h;simp only[h]
 unfold U32 at hu;have w1:IntKind.u8.wrap (S.d / 16777216)=S.d / 16777216:=(IntKind.wrap_u8' _).trans (by omega);have w2:IntKind.u8.wrap (S.d / 65536)=S.d / 65536 % 256:=IntKind.wrap_u8' _;have w3:IntKind.u8.wrap (S.d / 256)=S.d / 256 % 256:=IntKind.wrap_u8' _;have w4:IntKind.u8.wrap S.d=S.d % 256:=IntKind.wrap_u8' _;have w5:IntKind.u8.wrap (S.d.fdiv 16777216)=S.d / 16777216:=by rw[Int.fdiv_eq_ediv_of_nonneg _ (by decide)];exact w1
 have w6:IntKind.u8.wrap (S.d.fdiv 65536)=S.d / 65536 % 256:=by rw[Int.fdiv_eq_ediv_of_nonneg _ (by decide)];exact w2
 have w7:IntKind.u8.wrap (S.d.fdiv 256)=S.d / 256 % 256:=by rw[Int.fdiv_eq_ediv_of_nonneg _ (by decide)];exact w3
 clear hu;refine fl2 [.eq 284 _,.eq 285 _,.eq 286 _,.eq 287 _,.eq 288 _,.eq 289 _,.eq 290 _,.eq 291 _,.eq 292 _,.eq 293 _,.eq 294 _,.eq 295 _] 12 hs hd zl
  ⟨(stp rfl fun a u hb hs hl hd K hK=>by have s24:=gL hl 4;clear hd;go_simp;exact kE hK hs),
   (stp rfl fun a u hb hs hl hd K hK=>by have s26:=gL hl 0;clear hd;go_simp;exact kE hK hs),
   (stp rfl fun a u hb hs hl hd K hK=>by have s285:=gD hd 1;clear hd;go_simp;exact kE hK hs),
   (stp rfl fun a u hb hs hl hd K hK=>by have s286:=gD hd 2;clear hd;go_simp;exact kE hK hs),
   (stp rfl fun a u hb hs hl hd K hK=>by have s26:=gL hl 0;clear hd;go_simp;exact kE hK hs),
   (stp rfl fun a u hb hs hl hd K hK=>by have s288:=gD hd 4;clear hd;go_simp;exact kE hK hs),
   (stp rfl fun a u hb hs hl hd K hK=>by have s289:=gD hd 5;clear hd;go_simp;exact kE hK hs),
   (stp rfl fun a u hb hs hl hd K hK=>by have s26:=gL hl 0;clear hd;go_simp;exact kE hK hs),
   (stp rfl fun a u hb hs hl hd K hK=>by have s291:=gD hd 7;clear hd;go_simp;exact kE hK hs),
   (stp rfl fun a u hb hs hl hd K hK=>by have s292:=gD hd 8;clear hd;go_simp;exact kE hK hs),
   (stp rfl fun a u hb hs hl hd K hK=>by have s26:=gL hl 0;clear hd;go_simp;exact kE hK hs),
   (stp rfl fun a u hb hs hl hd K hK=>by have s294:=gD hd 10;clear hd;go_simp;exact kE hK hs),
   trivial⟩ ?_
 clear hs hd zl;intro a w hb hs hd zl hh;replace zl:=lH hh 0 zl;replace zl:=lH hh 3 zl;replace zl:=lH hh 6 zl;replace zl:=lH hh 9 zl;replace zl:=lH hh 11 zl;clear hh;replace hown:=hown.after hb;replace hB:=bz_then hB hb;clear hb;show wpList _ _ _ [_,_,_] _ _
 refine tail_op rfl (fun K hK=>?_);have q287:=gL zl 3;have q290:=gL zl 2;have q293:=gL zl 1;have q295:=gL zl 0;go_simp;clear q287 q290 q293 q295;refine hK _ _ (tP hs hd zl ?_);clear hK K hs hd zl;intro a hs hd zl;clear w1 w2 w3 w4 w5 w6 w7;generalize hw1:World.alloc w _=u1;have hbs:Bs u1 (some ⟨w.heap.size,0,none⟩) (be32 S.d):=by rw[← hw1];exact bs_u8s (Blk.new w 5 _)
 have hB1:Below w.heap.size w u1:=by rw[← hw1];exact bz_alloc (bz_refl w) _
 replace hB:=bz_then hB hB1;replace hown:=hown.after hB1;clear hw1 hB1;refine tail_op rfl (fun K hK=>?_);have q284:=gL zl 5;have q296:=gL zl 0;have s284:=vL zl 5;have s296:=vL zl 0;refine op_app_u8 (.tmp 284) (.tmp 296) rfl (l2:=be32 S.d) (c2:=4) s284 s296 hown hbs (by have:=hPH.out;rw[this];simp[be32]) hB.size ?_;intro l1 A1 c1 u2 hl1 _ hown1 hbel _ _;clear q284 q296;refine hK _ _ (tP hs hd zl ?_);clear hK K hs hd zl s284 s296;intro a hs hd zl;replace hB:=hB.trans hbel;have hPl:l1.length=16:=by rw[hl1.out,List.length_append,hPH.out];rfl
 replace hP0:Is (([]:List Int)++be32 S.a++be32 S.b++be32 S.c++be32 S.d) l1:=(by have h1:=hl1.out;rw[← hP0.out]at h1;exact h1.symm);clear hPH hown hbs hbel hl1;have hPH:=Is.hid hPl;have hown:=hown1;clear hPl hown1;refine tail_op rfl (fun K hK=>?_);have q297:=gL zl 0;go_simp;clear q297;refine hK _ _ ?_;clear hK K;obtain⟨s297,s296,s295,s293,s290,s287,s284,-,-,-,s281,s24,s280,-,-⟩:=zl;refine act_put (d:=24) _ hs hd (by decide) [(280,_),(281,_),(284,_),(287,_),(290,_),(293,_),(295,_),(296,_),(297,_)] ⟨s280,s281,s284,s287,s290,s293,s295,s296,s297,trivial⟩ rfl ?_;clear hs hd s24 s280 s281 s284 s287 s290 s293 s295 s296 s297;intro a hs hd zl;refine fl2 [.eq 298 _] 1 hs hd zl
  ⟨(stp rfl fun a u hb hs hl hd K hK=>by have s281:=gL hl 2;clear hd;go_simp;exact kE hK hs),
   trivial⟩ ?_
 clear hs hd zl;intro a w hb hs hd zl hh;replace zl:=lH hh 0 zl;clear hh;replace hown:=hown.after hb;replace hB:=bz_then hB hb;clear hb;show wpList _ _ _ [_] _ _
 refine tail_op rfl (fun K hK=>?_);have q298:=gL zl 0;go_simp;clear q298;refine hK _ _ ?_;clear hK K;obtain⟨s298,s24,s280,s281,-,-,-,-,-,-,-,-⟩:=zl;refine act_put (d:=281) _ hs hd (by decide) [(24,_),(280,_),(298,_)] ⟨s24,s280,s298,trivial⟩ rfl ?_;clear hs hd s24 s280 s281 s298;intro a hs hd zl;change Code.wp _ (ssB 16) (Exit.then (Code.rounds _ _ _ 4) _) _ _;conv=>arg 2;whnf
 refine wp_seq ?_;refine wp_region_list ?_;show wpList _ _ _ [_] _ _
 refine tail_op rfl (fun K hK=>?_);have q281:=gL zl 0;go_simp;clear q281;refine hK _ _ (tP hs hd zl ?_);clear hK K hs hd zl;intro a hs hd zl;refine wp_seq ?_;refine wp_cond_true (vL zl 0) ?_;refine wp_skip ?_;refine wp_seq ?_;refine wp_block ?_;refine wp_seq ?_;refine fl2 [.eq 283 _] 1 hs hd zl
  ⟨(stp rfl fun a u hb hs hl hd K hK=>by have s280:=gL hl 3;have s281:=gL hl 1;clear hd;go_simp;exact kE hK hs),
   trivial⟩ ?_
 clear hs hd zl;intro a w hb hs hd zl hh;replace zl:=lH hh 0 zl;clear hh;replace hown:=hown.after hb;replace hB:=bz_then hB hb;clear hb;show wpList _ _ _ [_] _ _
 refine tail_op rfl (fun K hK=>?_);have q283:=gL zl 0;go_simp;clear q283;refine hK _ _ (tP hs hd zl ?_);clear hK K hs hd zl;intro a hs hd zl;have hu:U32 S.e:=by have h:=hU;unfold St32 at h;simp only[h]
 unfold U32 at hu;have w1:IntKind.u8.wrap (S.e / 16777216)=S.e / 16777216:=(IntKind.wrap_u8' _).trans (by omega);have w2:IntKind.u8.wrap (S.e / 65536)=S.e / 65536 % 256:=IntKind.wrap_u8' _;have w3:IntKind.u8.wrap (S.e / 256)=S.e / 256 % 256:=IntKind.wrap_u8' _;have w4:IntKind.u8.wrap S.e=S.e % 256:=IntKind.wrap_u8' _;have w5:IntKind.u8.wrap (S.e.fdiv 16777216)=S.e / 16777216:=by rw[Int.fdiv_eq_ediv_of_nonneg _ (by decide)];exact w1
 have w6:IntKind.u8.wrap (S.e.fdiv 65536)=S.e / 65536 % 256:=by rw[Int.fdiv_eq_ediv_of_nonneg _ (by decide)];exact w2
 have w7:IntKind.u8.wrap (S.e.fdiv 256)=S.e / 256 % 256:=by rw[Int.fdiv_eq_ediv_of_nonneg _ (by decide)];exact w3
 clear hu;refine fl2 [.eq 284 _,.eq 285 _,.eq 286 _,.eq 287 _,.eq 288 _,.eq 289 _,.eq 290 _,.eq 291 _,.eq 292 _,.eq 293 _,.eq 294 _,.eq 295 _] 12 hs hd zl
  ⟨(stp rfl fun a u hb hs hl hd K hK=>by have s24:=gL hl 4;clear hd;go_simp;exact kE hK hs),
   (stp rfl fun a u hb hs hl hd K hK=>by have s26:=gL hl 0;clear hd;go_simp;exact kE hK hs),
   (stp rfl fun a u hb hs hl hd K hK=>by have s285:=gD hd 1;clear hd;go_simp;exact kE hK hs),
   (stp rfl fun a u hb hs hl hd K hK=>by have s286:=gD hd 2;clear hd;go_simp;exact kE hK hs),
   (stp rfl fun a u hb hs hl hd K hK=>by have s26:=gL hl 0;clear hd;go_simp;exact kE hK hs),
   (stp rfl fun a u hb hs hl hd K hK=>by have s288:=gD hd 4;clear hd;go_simp;exact kE hK hs),
   (stp rfl fun a u hb hs hl hd K hK=>by have s289:=gD hd 5;clear hd;go_simp;exact kE hK hs),
   (stp rfl fun a u hb hs hl hd K hK=>by have s26:=gL hl 0;clear hd;go_simp;exact kE hK hs),
   (stp rfl fun a u hb hs hl hd K hK=>by have s291:=gD hd 7;clear hd;go_simp;exact kE hK hs),
   (stp rfl fun a u hb hs hl hd K hK=>by have s292:=gD hd 8;clear hd;go_simp;exact kE hK hs),
   (stp rfl fun a u hb hs hl hd K hK=>by have s26:=gL hl 0;clear hd;go_simp;exact kE hK hs),
   (stp rfl fun a u hb hs hl hd K hK=>by have s294:=gD hd 10;clear hd;go_simp;exact kE hK hs),
   trivial⟩ ?_
 clear hs hd zl;intro a w hb hs hd zl hh;replace zl:=lH hh 0 zl;replace zl:=lH hh 3 zl;replace zl:=lH hh 6 zl;replace zl:=lH hh 9 zl;replace zl:=lH hh 11 zl;clear hh;replace hown:=hown.after hb;replace hB:=bz_then hB hb;clear hb;show wpList _ _ _ [_,_,_] _ _
 refine tail_op rfl (fun K hK=>?_);have q287:=gL zl 3;have q290:=gL zl 2;have q293:=gL zl 1;have q295:=gL zl 0;go_simp;clear q287 q290 q293 q295;refine hK _ _ (tP hs hd zl ?_);clear hK K hs hd zl;intro a hs hd zl;clear w1 w2 w3 w4 w5 w6 w7;generalize hw1:World.alloc w _=u1;have hbs:Bs u1 (some ⟨w.heap.size,0,none⟩) (be32 S.e):=by rw[← hw1];exact bs_u8s (Blk.new w 5 _)
 have hB1:Below w.heap.size w u1:=by rw[← hw1];exact bz_alloc (bz_refl w) _
 replace hB:=bz_then hB hB1;replace hown:=hown.after hB1;clear hw1 hB1;refine tail_op rfl (fun K hK=>?_);have q284:=gL zl 5;have q296:=gL zl 0;have s284:=vL zl 5;have s296:=vL zl 0;refine op_app_u8 (.tmp 284) (.tmp 296) rfl (l2:=be32 S.e) (c2:=4) s284 s296 hown hbs (by have:=hPH.out;rw[this];simp[be32]) hB.size ?_;intro l1 A1 c1 u2 hl1 _ hown1 hbel _ _;clear q284 q296;refine hK _ _ (tP hs hd zl ?_);clear hK K hs hd zl s284 s296;intro a hs hd zl;replace hB:=hB.trans hbel;have hPl:l1.length=20:=by rw[hl1.out,List.length_append,hPH.out];rfl
 replace hP0:Is (([]:List Int)++be32 S.a++be32 S.b++be32 S.c++be32 S.d++be32 S.e) l1:=(by have h1:=hl1.out;rw[← hP0.out]at h1;exact h1.symm);clear hPH hown hbs hbel hl1;have hPH:=Is.hid hPl;have hown:=hown1;clear hPl hown1;refine tail_op rfl (fun K hK=>?_);have q297:=gL zl 0;go_simp;clear q297;refine hK _ _ ?_;clear hK K;obtain⟨s297,s296,s295,s293,s290,s287,s284,-,-,-,s281,s24,s280,-,-⟩:=zl;refine act_put (d:=24) _ hs hd (by decide) [(280,_),(281,_),(284,_),(287,_),(290,_),(293,_),(295,_),(296,_),(297,_)] ⟨s280,s281,s284,s287,s290,s293,s295,s296,s297,trivial⟩ rfl ?_;clear hs hd s24 s280 s281 s284 s287 s290 s293 s295 s296 s297;intro a hs hd zl;refine fl2 [.eq 298 _] 1 hs hd zl
  ⟨(stp rfl fun a u hb hs hl hd K hK=>by have s281:=gL hl 2;clear hd;go_simp;exact kE hK hs),
   trivial⟩ ?_
 clear hs hd zl;intro a w hb hs hd zl hh;replace zl:=lH hh 0 zl;clear hh;replace hown:=hown.after hb;replace hB:=bz_then hB hb;clear hb;show wpList _ _ _ [_] _ _
 refine tail_op rfl (fun K hK=>?_);have q298:=gL zl 0;go_simp;clear q298;refine hK _ _ ?_;clear hK K;obtain⟨s298,s24,s280,s281,-,-,-,-,-,-,-,-⟩:=zl;refine act_put (d:=281) _ hs hd (by decide) [(24,_),(280,_),(298,_)] ⟨s24,s280,s298,trivial⟩ rfl ?_;clear hs hd s24 s280 s281 s298;intro a hs hd zl;change Code.wp _ (ssB 16) (Exit.then (Code.rounds _ _ _ 3) _) _ _;conv=>arg 2;whnf
 refine wp_seq ?_;refine wp_region_list ?_;show wpList _ _ _ [_] _ _
 refine tail_op rfl (fun K hK=>?_);have q281:=gL zl 0;go_simp;clear q281;refine hK _ _ (tP hs hd zl ?_);clear hK K hs hd zl;intro a hs hd zl;refine wp_seq ?_;refine wp_cond_true (vL zl 0) ?_;refine wp_skip ?_;refine wp_seq ?_;refine wp_block ?_;refine wp_seq ?_;refine fl2 [.eq 283 _] 1 hs hd zl
  ⟨(stp rfl fun a u hb hs hl hd K hK=>by have s280:=gL hl 3;have s281:=gL hl 1;clear hd;go_simp;exact kE hK hs),
   trivial⟩ ?_
 clear hs hd zl;intro a w hb hs hd zl hh;replace zl:=lH hh 0 zl;clear hh;replace hown:=hown.after hb;replace hB:=bz_then hB hb;clear hb;show wpList _ _ _ [_] _ _
 refine tail_op rfl (fun K hK=>?_);have q283:=gL zl 0;go_simp;clear q283;refine hK _ _ (tP hs hd zl ?_);clear hK K hs hd zl;intro a hs hd zl;have hu:U32 S.f:=by have h:=hU;unfold St32 at h;simp only[h]
 unfold U32 at hu;have w1:IntKind.u8.wrap (S.f / 16777216)=S.f / 16777216:=(IntKind.wrap_u8' _).trans (by omega);have w2:IntKind.u8.wrap (S.f / 65536)=S.f / 65536 % 256:=IntKind.wrap_u8' _;have w3:IntKind.u8.wrap (S.f / 256)=S.f / 256 % 256:=IntKind.wrap_u8' _;have w4:IntKind.u8.wrap S.f=S.f % 256:=IntKind.wrap_u8' _;have w5:IntKind.u8.wrap (S.f.fdiv 16777216)=S.f / 16777216:=by rw[Int.fdiv_eq_ediv_of_nonneg _ (by decide)];exact w1
 have w6:IntKind.u8.wrap (S.f.fdiv 65536)=S.f / 65536 % 256:=by rw[Int.fdiv_eq_ediv_of_nonneg _ (by decide)];exact w2
 have w7:IntKind.u8.wrap (S.f.fdiv 256)=S.f / 256 % 256:=by rw[Int.fdiv_eq_ediv_of_nonneg _ (by decide)];exact w3
 clear hu;refine fl2 [.eq 284 _,.eq 285 _,.eq 286 _,.eq 287 _,.eq 288 _,.eq 289 _,.eq 290 _,.eq 291 _,.eq 292 _,.eq 293 _,.eq 294 _,.eq 295 _] 12 hs hd zl
  ⟨(stp rfl fun a u hb hs hl hd K hK=>by have s24:=gL hl 4;clear hd;go_simp;exact kE hK hs),
   (stp rfl fun a u hb hs hl hd K hK=>by have s26:=gL hl 0;clear hd;go_simp;exact kE hK hs),
   (stp rfl fun a u hb hs hl hd K hK=>by have s285:=gD hd 1;clear hd;go_simp;exact kE hK hs),
   (stp rfl fun a u hb hs hl hd K hK=>by have s286:=gD hd 2;clear hd;go_simp;exact kE hK hs),
   (stp rfl fun a u hb hs hl hd K hK=>by have s26:=gL hl 0;clear hd;go_simp;exact kE hK hs),
   (stp rfl fun a u hb hs hl hd K hK=>by have s288:=gD hd 4;clear hd;go_simp;exact kE hK hs),
   (stp rfl fun a u hb hs hl hd K hK=>by have s289:=gD hd 5;clear hd;go_simp;exact kE hK hs),
   (stp rfl fun a u hb hs hl hd K hK=>by have s26:=gL hl 0;clear hd;go_simp;exact kE hK hs),
   (stp rfl fun a u hb hs hl hd K hK=>by have s291:=gD hd 7;clear hd;go_simp;exact kE hK hs),
   (stp rfl fun a u hb hs hl hd K hK=>by have s292:=gD hd 8;clear hd;go_simp;exact kE hK hs),
   (stp rfl fun a u hb hs hl hd K hK=>by have s26:=gL hl 0;clear hd;go_simp;exact kE hK hs),
   (stp rfl fun a u hb hs hl hd K hK=>by have s294:=gD hd 10;clear hd;go_simp;exact kE hK hs),
   trivial⟩ ?_
 clear hs hd zl;intro a w hb hs hd zl hh;replace zl:=lH hh 0 zl;replace zl:=lH hh 3 zl;replace zl:=lH hh 6 zl;replace zl:=lH hh 9 zl;replace zl:=lH hh 11 zl;clear hh;replace hown:=hown.after hb;replace hB:=bz_then hB hb;clear hb;show wpList _ _ _ [_,_,_] _ _
 refine tail_op rfl (fun K hK=>?_);have q287:=gL zl 3;have q290:=gL zl 2;have q293:=gL zl 1;have q295:=gL zl 0;go_simp;clear q287 q290 q293 q295;refine hK _ _ (tP hs hd zl ?_);clear hK K hs hd zl;intro a hs hd zl;clear w1 w2 w3 w4 w5 w6 w7;generalize hw1:World.alloc w _=u1;have hbs:Bs u1 (some ⟨w.heap.size,0,none⟩) (be32 S.f):=by rw[← hw1];exact bs_u8s (Blk.new w 5 _)
 have hB1:Below w.heap.size w u1:=by rw[← hw1];exact bz_alloc (bz_refl w) _
 replace hB:=bz_then hB hB1;replace hown:=hown.after hB1;clear hw1 hB1;refine tail_op rfl (fun K hK=>?_);have q284:=gL zl 5;have q296:=gL zl 0;have s284:=vL zl 5;have s296:=vL zl 0;refine op_app_u8 (.tmp 284) (.tmp 296) rfl (l2:=be32 S.f) (c2:=4) s284 s296 hown hbs (by have:=hPH.out;rw[this];simp[be32]) hB.size ?_;intro l1 A1 c1 u2 hl1 _ hown1 hbel _ _;clear q284 q296;refine hK _ _ (tP hs hd zl ?_);clear hK K hs hd zl s284 s296;intro a hs hd zl;replace hB:=hB.trans hbel;have hPl:l1.length=24:=by rw[hl1.out,List.length_append,hPH.out];rfl
 replace hP0:Is (([]:List Int)++be32 S.a++be32 S.b++be32 S.c++be32 S.d++be32 S.e++be32 S.f) l1:=(by have h1:=hl1.out;rw[← hP0.out]at h1;exact h1.symm);clear hPH hown hbs hbel hl1;have hPH:=Is.hid hPl;have hown:=hown1;clear hPl hown1;refine tail_op rfl (fun K hK=>?_);have q297:=gL zl 0;go_simp;clear q297;refine hK _ _ ?_;clear hK K;obtain⟨s297,s296,s295,s293,s290,s287,s284,-,-,-,s281,s24,s280,-,-⟩:=zl;refine act_put (d:=24) _ hs hd (by decide) [(280,_),(281,_),(284,_),(287,_),(290,_),(293,_),(295,_),(296,_),(297,_)] ⟨s280,s281,s284,s287,s290,s293,s295,s296,s297,trivial⟩ rfl ?_;clear hs hd s24 s280 s281 s284 s287 s290 s293 s295 s296 s297;intro a hs hd zl;refine fl2 [.eq 298 _] 1 hs hd zl
  ⟨(stp rfl fun a u hb hs hl hd K hK=>by have s281:=gL hl 2;clear hd;go_simp;exact kE hK hs),
   trivial⟩ ?_
 clear hs hd zl;intro a w hb hs hd zl hh;replace zl:=lH hh 0 zl;clear hh;replace hown:=hown.after hb;replace hB:=bz_then hB hb;clear hb;show wpList _ _ _ [_] _ _
 refine tail_op rfl (fun K hK=>?_);have q298:=gL zl 0;go_simp;clear q298;refine hK _ _ ?_;clear hK K;obtain⟨s298,s24,s280,s281,-,-,-,-,-,-,-,-⟩:=zl;refine act_put (d:=281) _ hs hd (by decide) [(24,_),(280,_),(298,_)] ⟨s24,s280,s298,trivial⟩ rfl ?_;clear hs hd s24 s280 s281 s298;intro a hs hd zl;change Code.wp _ (ssB 16) (Exit.then (Code.rounds _ _ _ 2) _) _ _;conv=>arg 2;whnf
 refine wp_seq ?_;refine wp_region_list ?_;show wpList _ _ _ [_] _ _
 refine tail_op rfl (fun K hK=>?_);have q281:=gL zl 0;go_simp;clear q281;refine hK _ _ (tP hs hd zl ?_);clear hK K hs hd zl;intro a hs hd zl;refine wp_seq ?_;refine wp_cond_true (vL zl 0) ?_;refine wp_skip ?_;refine wp_seq ?_;refine wp_block ?_;refine wp_seq ?_;refine fl2 [.eq 283 _] 1 hs hd zl
  ⟨(stp rfl fun a u hb hs hl hd K hK=>by have s280:=gL hl 3;have s281:=gL hl 1;clear hd;go_simp;exact kE hK hs),
   trivial⟩ ?_
 clear hs hd zl;intro a w hb hs hd zl hh;replace zl:=lH hh 0 zl;clear hh;replace hown:=hown.after hb;replace hB:=bz_then hB hb;clear hb;show wpList _ _ _ [_] _ _
 refine tail_op rfl (fun K hK=>?_);have q283:=gL zl 0;go_simp;clear q283;refine hK _ _ (tP hs hd zl ?_);clear hK K hs hd zl;intro a hs hd zl;have hu:U32 S.g:=by have h:=hU;unfold St32 at h;simp only[h]
 unfold U32 at hu;have w1:IntKind.u8.wrap (S.g / 16777216)=S.g / 16777216:=(IntKind.wrap_u8' _).trans (by omega);have w2:IntKind.u8.wrap (S.g / 65536)=S.g / 65536 % 256:=IntKind.wrap_u8' _;have w3:IntKind.u8.wrap (S.g / 256)=S.g / 256 % 256:=IntKind.wrap_u8' _;have w4:IntKind.u8.wrap S.g=S.g % 256:=IntKind.wrap_u8' _;have w5:IntKind.u8.wrap (S.g.fdiv 16777216)=S.g / 16777216:=by rw[Int.fdiv_eq_ediv_of_nonneg _ (by decide)];exact w1
 have w6:IntKind.u8.wrap (S.g.fdiv 65536)=S.g / 65536 % 256:=by rw[Int.fdiv_eq_ediv_of_nonneg _ (by decide)];exact w2
 have w7:IntKind.u8.wrap (S.g.fdiv 256)=S.g / 256 % 256:=by rw[Int.fdiv_eq_ediv_of_nonneg _ (by decide)];exact w3
 clear hu;refine fl2 [.eq 284 _,.eq 285 _,.eq 286 _,.eq 287 _,.eq 288 _,.eq 289 _,.eq 290 _,.eq 291 _,.eq 292 _,.eq 293 _,.eq 294 _,.eq 295 _] 12 hs hd zl
  ⟨(stp rfl fun a u hb hs hl hd K hK=>by have s24:=gL hl 4;clear hd;go_simp;exact kE hK hs),
   (stp rfl fun a u hb hs hl hd K hK=>by have s26:=gL hl 0;clear hd;go_simp;exact kE hK hs),
   (stp rfl fun a u hb hs hl hd K hK=>by have s285:=gD hd 1;clear hd;go_simp;exact kE hK hs),
   (stp rfl fun a u hb hs hl hd K hK=>by have s286:=gD hd 2;clear hd;go_simp;exact kE hK hs),
   (stp rfl fun a u hb hs hl hd K hK=>by have s26:=gL hl 0;clear hd;go_simp;exact kE hK hs),
   (stp rfl fun a u hb hs hl hd K hK=>by have s288:=gD hd 4;clear hd;go_simp;exact kE hK hs),
   (stp rfl fun a u hb hs hl hd K hK=>by have s289:=gD hd 5;clear hd;go_simp;exact kE hK hs),
   (stp rfl fun a u hb hs hl hd K hK=>by have s26:=gL hl 0;clear hd;go_simp;exact kE hK hs),
   (stp rfl fun a u hb hs hl hd K hK=>by have s291:=gD hd 7;clear hd;go_simp;exact kE hK hs),
   (stp rfl fun a u hb hs hl hd K hK=>by have s292:=gD hd 8;clear hd;go_simp;exact kE hK hs),
   (stp rfl fun a u hb hs hl hd K hK=>by have s26:=gL hl 0;clear hd;go_simp;exact kE hK hs),
   (stp rfl fun a u hb hs hl hd K hK=>by have s294:=gD hd 10;clear hd;go_simp;exact kE hK hs),
   trivial⟩ ?_
 clear hs hd zl;intro a w hb hs hd zl hh;replace zl:=lH hh 0 zl;replace zl:=lH hh 3 zl;replace zl:=lH hh 6 zl;replace zl:=lH hh 9 zl;replace zl:=lH hh 11 zl;clear hh;replace hown:=hown.after hb;replace hB:=bz_then hB hb;clear hb;show wpList _ _ _ [_,_,_] _ _
 refine tail_op rfl (fun K hK=>?_);have q287:=gL zl 3;have q290:=gL zl 2;have q293:=gL zl 1;have q295:=gL zl 0;go_simp;clear q287 q290 q293 q295;refine hK _ _ (tP hs hd zl ?_);clear hK K hs hd zl;intro a hs hd zl;clear w1 w2 w3 w4 w5 w6 w7;generalize hw1:World.alloc w _=u1;have hbs:Bs u1 (some ⟨w.heap.size,0,none⟩) (be32 S.g):=by rw[← hw1];exact bs_u8s (Blk.new w 5 _)
 have hB1:Below w.heap.size w u1:=by rw[← hw1];exact bz_alloc (bz_refl w) _
 replace hB:=bz_then hB hB1;replace hown:=hown.after hB1;clear hw1 hB1;refine tail_op rfl (fun K hK=>?_);have q284:=gL zl 5;have q296:=gL zl 0;have s284:=vL zl 5;have s296:=vL zl 0;refine op_app_u8 (.tmp 284) (.tmp 296) rfl (l2:=be32 S.g) (c2:=4) s284 s296 hown hbs (by have:=hPH.out;rw[this];simp[be32]) hB.size ?_;intro l1 A1 c1 u2 hl1 _ hown1 hbel _ _;clear q284 q296;refine hK _ _ (tP hs hd zl ?_);clear hK K hs hd zl s284 s296;intro a hs hd zl;replace hB:=hB.trans hbel;have hPl:l1.length=28:=by rw[hl1.out,List.length_append,hPH.out];rfl
 replace hP0:Is (([]:List Int)++be32 S.a++be32 S.b++be32 S.c++be32 S.d++be32 S.e++be32 S.f++be32 S.g) l1:=(by have h1:=hl1.out;rw[← hP0.out]at h1;exact h1.symm);clear hPH hown hbs hbel hl1;have hPH:=Is.hid hPl;have hown:=hown1;clear hPl hown1;refine tail_op rfl (fun K hK=>?_);have q297:=gL zl 0;go_simp;clear q297;refine hK _ _ ?_;clear hK K;obtain⟨s297,s296,s295,s293,s290,s287,s284,-,-,-,s281,s24,s280,-,-⟩:=zl;refine act_put (d:=24) _ hs hd (by decide) [(280,_),(281,_),(284,_),(287,_),(290,_),(293,_),(295,_),(296,_),(297,_)] ⟨s280,s281,s284,s287,s290,s293,s295,s296,s297,trivial⟩ rfl ?_;clear hs hd s24 s280 s281 s284 s287 s290 s293 s295 s296 s297;intro a hs hd zl;refine fl2 [.eq 298 _] 1 hs hd zl
  ⟨(stp rfl fun a u hb hs hl hd K hK=>by have s281:=gL hl 2;clear hd;go_simp;exact kE hK hs),
   trivial⟩ ?_
 clear hs hd zl;intro a w hb hs hd zl hh;replace zl:=lH hh 0 zl;clear hh;replace hown:=hown.after hb;replace hB:=bz_then hB hb;clear hb;show wpList _ _ _ [_] _ _
 refine tail_op rfl (fun K hK=>?_);have q298:=gL zl 0;go_simp;clear q298;refine hK _ _ ?_;clear hK K;obtain⟨s298,s24,s280,s281,-,-,-,-,-,-,-,-⟩:=zl;refine act_put (d:=281) _ hs hd (by decide) [(24,_),(280,_),(298,_)] ⟨s24,s280,s298,trivial⟩ rfl ?_;clear hs hd s24 s280 s281 s298;intro a hs hd zl;change Code.wp _ (ssB 16) (Exit.then (Code.rounds _ _ _ 1) _) _ _;conv=>arg 2;whnf
 refine wp_seq ?_;refine wp_region_list ?_;show wpList _ _ _ [_] _ _
 refine tail_op rfl (fun K hK=>?_);have q281:=gL zl 0;go_simp;clear q281;refine hK _ _ (tP hs hd zl ?_);clear hK K hs hd zl;intro a hs hd zl;refine wp_seq ?_;refine wp_cond_true (vL zl 0) ?_;refine wp_skip ?_;refine wp_seq ?_;refine wp_block ?_;refine wp_seq ?_;refine fl2 [.eq 283 _] 1 hs hd zl
  ⟨(stp rfl fun a u hb hs hl hd K hK=>by have s280:=gL hl 3;have s281:=gL hl 1;clear hd;go_simp;exact kE hK hs),
   trivial⟩ ?_
 clear hs hd zl;intro a w hb hs hd zl hh;replace zl:=lH hh 0 zl;clear hh;replace hown:=hown.after hb;replace hB:=bz_then hB hb;clear hb;show wpList _ _ _ [_] _ _
 refine tail_op rfl (fun K hK=>?_);have q283:=gL zl 0;go_simp;clear q283;refine hK _ _ (tP hs hd zl ?_);clear hK K hs hd zl;intro a hs hd zl;have hu:U32 S.h:=by have h:=hU;unfold St32 at h;simp only[h]
 unfold U32 at hu;have w1:IntKind.u8.wrap (S.h / 16777216)=S.h / 16777216:=(IntKind.wrap_u8' _).trans (by omega);have w2:IntKind.u8.wrap (S.h / 65536)=S.h / 65536 % 256:=IntKind.wrap_u8' _;have w3:IntKind.u8.wrap (S.h / 256)=S.h / 256 % 256:=IntKind.wrap_u8' _;have w4:IntKind.u8.wrap S.h=S.h % 256:=IntKind.wrap_u8' _;have w5:IntKind.u8.wrap (S.h.fdiv 16777216)=S.h / 16777216:=by rw[Int.fdiv_eq_ediv_of_nonneg _ (by decide)];exact w1
 have w6:IntKind.u8.wrap (S.h.fdiv 65536)=S.h / 65536 % 256:=by rw[Int.fdiv_eq_ediv_of_nonneg _ (by decide)];exact w2
 have w7:IntKind.u8.wrap (S.h.fdiv 256)=S.h / 256 % 256:=by rw[Int.fdiv_eq_ediv_of_nonneg _ (by decide)];exact w3
 clear hu;refine fl2 [.eq 284 _,.eq 285 _,.eq 286 _,.eq 287 _,.eq 288 _,.eq 289 _,.eq 290 _,.eq 291 _,.eq 292 _,.eq 293 _,.eq 294 _,.eq 295 _] 12 hs hd zl
  ⟨(stp rfl fun a u hb hs hl hd K hK=>by have s24:=gL hl 4;clear hd;go_simp;exact kE hK hs),
   (stp rfl fun a u hb hs hl hd K hK=>by have s26:=gL hl 0;clear hd;go_simp;exact kE hK hs),
   (stp rfl fun a u hb hs hl hd K hK=>by have s285:=gD hd 1;clear hd;go_simp;exact kE hK hs),
   (stp rfl fun a u hb hs hl hd K hK=>by have s286:=gD hd 2;clear hd;go_simp;exact kE hK hs),
   (stp rfl fun a u hb hs hl hd K hK=>by have s26:=gL hl 0;clear hd;go_simp;exact kE hK hs),
   (stp rfl fun a u hb hs hl hd K hK=>by have s288:=gD hd 4;clear hd;go_simp;exact kE hK hs),
   (stp rfl fun a u hb hs hl hd K hK=>by have s289:=gD hd 5;clear hd;go_simp;exact kE hK hs),
   (stp rfl fun a u hb hs hl hd K hK=>by have s26:=gL hl 0;clear hd;go_simp;exact kE hK hs),
   (stp rfl fun a u hb hs hl hd K hK=>by have s291:=gD hd 7;clear hd;go_simp;exact kE hK hs),
   (stp rfl fun a u hb hs hl hd K hK=>by have s292:=gD hd 8;clear hd;go_simp;exact kE hK hs),
   (stp rfl fun a u hb hs hl hd K hK=>by have s26:=gL hl 0;clear hd;go_simp;exact kE hK hs),
   (stp rfl fun a u hb hs hl hd K hK=>by have s294:=gD hd 10;clear hd;go_simp;exact kE hK hs),
   trivial⟩ ?_
 clear hs hd zl;intro a w hb hs hd zl hh;replace zl:=lH hh 0 zl;replace zl:=lH hh 3 zl;replace zl:=lH hh 6 zl;replace zl:=lH hh 9 zl;replace zl:=lH hh 11 zl;clear hh;replace hown:=hown.after hb;replace hB:=bz_then hB hb;clear hb;show wpList _ _ _ [_,_,_] _ _
 refine tail_op rfl (fun K hK=>?_);have q287:=gL zl 3;have q290:=gL zl 2;have q293:=gL zl 1;have q295:=gL zl 0;go_simp;clear q287 q290 q293 q295;refine hK _ _ (tP hs hd zl ?_);clear hK K hs hd zl;intro a hs hd zl;clear w1 w2 w3 w4 w5 w6 w7;generalize hw1:World.alloc w _=u1;have hbs:Bs u1 (some ⟨w.heap.size,0,none⟩) (be32 S.h):=by rw[← hw1];exact bs_u8s (Blk.new w 5 _)
 have hB1:Below w.heap.size w u1:=by rw[← hw1];exact bz_alloc (bz_refl w) _
 replace hB:=bz_then hB hB1;replace hown:=hown.after hB1;clear hw1 hB1;refine tail_op rfl (fun K hK=>?_);have q284:=gL zl 5;have q296:=gL zl 0;have s284:=vL zl 5;have s296:=vL zl 0;refine op_app_u8 (.tmp 284) (.tmp 296) rfl (l2:=be32 S.h) (c2:=4) s284 s296 hown hbs (by have:=hPH.out;rw[this];simp[be32]) hB.size ?_;intro l1 A1 c1 u2 hl1 _ hown1 hbel _ _;clear q284 q296;refine hK _ _ (tP hs hd zl ?_);clear hK K hs hd zl s284 s296;intro a hs hd zl;replace hB:=hB.trans hbel;have hPl:l1.length=32:=by rw[hl1.out,List.length_append,hPH.out];rfl
 replace hP0:Is (([]:List Int)++be32 S.a++be32 S.b++be32 S.c++be32 S.d++be32 S.e++be32 S.f++be32 S.g++be32 S.h) l1:=(by have h1:=hl1.out;rw[← hP0.out]at h1;exact h1.symm);clear hPH hown hbs hbel hl1;have hPH:=Is.hid hPl;have hown:=hown1;clear hPl hown1;refine tail_op rfl (fun K hK=>?_);have q297:=gL zl 0;go_simp;clear q297;refine hK _ _ ?_;clear hK K;obtain⟨s297,s296,s295,s293,s290,s287,s284,-,-,-,s281,s24,s280,-,-⟩:=zl;refine act_put (d:=24) _ hs hd (by decide) [(280,_),(281,_),(284,_),(287,_),(290,_),(293,_),(295,_),(296,_),(297,_)] ⟨s280,s281,s284,s287,s290,s293,s295,s296,s297,trivial⟩ rfl ?_;clear hs hd s24 s280 s281 s284 s287 s290 s293 s295 s296 s297;intro a hs hd zl;refine fl2 [.eq 298 _] 1 hs hd zl
  ⟨(stp rfl fun a u hb hs hl hd K hK=>by have s281:=gL hl 2;clear hd;go_simp;exact kE hK hs),
   trivial⟩ ?_
 clear hs hd zl;intro a w hb hs hd zl hh;replace zl:=lH hh 0 zl;clear hh;replace hown:=hown.after hb;replace hB:=bz_then hB hb;clear hb;show wpList _ _ _ [_] _ _
 refine tail_op rfl (fun K hK=>?_);have q298:=gL zl 0;go_simp;clear q298;refine hK _ _ ?_;clear hK K;obtain⟨s298,s24,s280,s281,-,-,-,-,-,-,-,-⟩:=zl;refine act_put (d:=281) _ hs hd (by decide) [(24,_),(280,_),(298,_)] ⟨s24,s280,s298,trivial⟩ rfl ?_;clear hs hd s24 s280 s281 s298;intro a hs hd zl;change Code.wp _ (ssB 16) (Exit.then (Code.rounds _ _ _ 0) _) _ _;conv=>arg 2;whnf
 refine wp_seq ?_;refine wp_region_list ?_;show wpList _ _ _ [_] _ _
 refine tail_op rfl (fun K hK=>?_);have q281:=gL zl 0;go_simp;clear q281;refine hK _ _ (tP hs hd zl ?_);clear hK K hs hd zl;intro a hs hd zl;refine wp_seq ?_;refine wp_cond_false (vL zl 0) ?_;refine wp_exit ?_;obtain⟨s282,s281,s24,s280,-,-⟩:=zl;exact hQ a w _ _ _ hP0.out.symm hs hd ⟨s24,trivial⟩ hB hown
theorem c_specSum(A:Option Addr)(c:Nat)(l:List Int)(w:World)(hl:Bs w A l)(hl8:Bytes l)(hlen:l.length≤900000000000):
  Calls Tryz.prog 23 #[.slice A l.length c] w (OutB w (sha l)):=by
 obtain⟨n,hn⟩:∃n,Is l.length n:=is_self _;have hn2:n≤900000000000:=by rw[← hn.out];exact hlen
 suffices h:∀w0,Below w0.heap.size w0 w→Calls Tryz.prog 23 #[.slice A l.length c] w (OutB w0 (sha l))from h w (bz_refl w)
 intro w0 hB;refine enter_abs Tryz.func23 rfl 300 rfl (by simp) ?_;intro a hs hd hargs;have s0:=hargs 0 _ rfl;clear hargs;refine wp_seq ?_;refine wp_region_list ?_;show wpList _ _ _ [_] _ _
 refine tail_op rfl (fun K hK=>?_);go_simp;refine hK _ _ ?_;clear hK K;refine act_put (d:=2) _ hs hd (by decide) [(0,_)] ⟨s0,trivial⟩ rfl ?_;clear hs hd s0;intro a hs hd zl;refine wp_seq ?_;refine wp_region_list ?_;show wpList _ _ _ [_,_,_] _ _
 refine tail_op rfl (fun K hK=>?_);go_simp;refine(c_begin _).mono ?_;rintro e w2 ⟨rfl,hb2⟩;refine hK _ _ (tP hs hd zl ?_);clear hK K hs hd zl;intro a hs hd zl;replace hB:=bz_then hB hb2;replace hl:=hl.after hb2;clear hb2;refine tail_op rfl (fun K hK=>?_);go_simp;refine hK _ _ (tP hs hd zl ?_);clear hK K hs hd zl;intro a hs hd zl;obtain⟨H,hE⟩:∃B,Is w2.heap.size B:=is_self _;have HB:=Nat.le_trans hB.size (Nat.le_of_eq hE.out);have hlK:Far A l (some H):=hl.far (Nat.le_of_eq hE.out);generalize hw1:World.alloc w2 _=w1;have hH:Blk w1 H 97 (zs32 8):=by rw[← hw1,← hE.out];exact Blk.new w2 _ _
 have hB1:Below w2.heap.size w2 w1:=by rw[← hw1];exact bz_alloc (bz_refl w2) _
 replace hB:=bz_then hB hB1;replace hl:=hl.after hB1;obtain⟨s3,s27,-,s0,-⟩:=zl;rw[hE.out]at s3;clear hw1 hB1 hE;refine tail_op rfl (fun K hK=>?_);have q3:=gd s3;have q27:=gd s27;refine op_store_row 97 (.tmp 3) (.tmp 27) rfl H s3 (st8 sha0) s27 _ _ hH (by kernel_rfl) (by kernel_rfl) (one_u32 [sha0.a,sha0.b,sha0.c,sha0.d,sha0.e,sha0.f,sha0.g,sha0.h]) ?_;clear q3 q27;refine hK _ _ ?_;clear hK K;change wpList _ _ _ _ a _;have hgs:=gb_setRow w1 H (st8 sha0);replace hB:=GB.below2 hB hgs HB;replace hl:=hl.grown hgs hlK;replace hH:=hH.setRow (st8 sha0);clear hgs hlK;revert hB hl hH;generalize World.setRow _ _ _=w;intro hB hl hH;clear s27;refine wp_seq ?_;refine wp_region_list ?_;show wpList _ _ _ [_,_,_] _ _
 refine tail_op rfl (fun K hK=>?_);go_simp;refine(c_rounds _).mono ?_;rintro e w2 ⟨rfl,hb2⟩;refine hK _ _ ?_;clear hK K;refine act_put (d:=28) _ hs hd (by decide) [(0,_),(3,_)] ⟨s0,s3,trivial⟩ rfl ?_;clear hs hd s0 s3;intro a hs hd zl;replace hB:=bz_then hB hb2;replace hl:=hl.after hb2;replace hH:=hH.after hb2;clear hb2;refine tail_op rfl (fun K hK=>?_);go_simp;refine hK _ _ (tP hs hd zl ?_);clear hK K hs hd zl;intro a hs hd zl;obtain⟨KR,hE⟩:∃B,Is w2.heap.size B:=is_self _;have KRB:=Nat.le_trans hB.size (Nat.le_of_eq hE.out);have hHK:H≠KR:=by have:=hH.lt;rw[← hE.out];omega
 have hlK:Far A l (some KR):=hl.far (Nat.le_of_eq hE.out);generalize hw1:World.alloc w2 _=w1;have hKb:Blk w1 KR 99 (zs32 64):=by rw[← hw1,← hE.out];exact Blk.new w2 _ _
 have hB1:Below w2.heap.size w2 w1:=by rw[← hw1];exact bz_alloc (bz_refl w2) _
 replace hB:=bz_then hB hB1;replace hl:=hl.after hB1;replace hH:=hH.after hB1;obtain⟨s4,s28,s0,s3,-⟩:=zl;rw[hE.out]at s4;clear hw1 hB1 hE;refine tail_op rfl (fun K hK=>?_);have q4:=gd s4;have q28:=gd s28;refine op_store_row 99 (.tmp 4) (.tmp 28) rfl KR s4 (k64) s28 _ _ hKb (by kernel_rfl) (by kernel_rfl) (one_u32 kTab) ?_;clear q4 q28;refine hK _ _ ?_;clear hK K;change wpList _ _ _ _ a _;have hgs:=gb_setRow w1 KR (k64);replace hB:=GB.below2 hB hgs KRB;replace hl:=hl.grown hgs hlK;replace hKb:=hKb.setRow (k64);replace hH:=hH.gbfar hgs hHK.symm;clear hgs hlK;revert hB hl hKb hH;generalize World.setRow _ _ _=w;intro hB hl hKb hH;clear s28;refine wp_seq ?_;refine fl2 (F:=[(0,_),(3,_),(4,_)]) [.eq 29 _,.eq 30 _] 2 hs hd ⟨s0,s3,s4,trivial⟩
  ⟨sP bq,
   sP bq,
   trivial⟩ ?_
 clear hs hd s0 s3 s4;intro a w hb hs hd zl hh;replace zl:=lH hh 1 zl;clear hh;replace hl:=hl.after hb;replace hH:=hH.after hb;replace hKb:=hKb.after hb;replace hB:=bz_then hB hb;clear hb;refine wn 1 ?_;clear hs hd zl;intro a hs hd zl;obtain⟨s5,-,s0,s3,s4,-⟩:=zl;rw[hn.out]at s5;obtain⟨B1,hB1⟩:∃B,Is w.heap.size B:=is_self _;have hSS:SS w0 w B1 H KR sha0:=⟨hB,hH,hKb,HB,KRB,hHK,by rw[← hB1.out];exact hH.lt,by rw[← hB1.out];exact hKb.lt,Nat.le_of_eq hB1.out.symm⟩;clear hB hH hKb;refine wp_seq ?_;refine fl2 (F:=[(0,_),(3,_),(4,_),(5,_)]) [.eq 31 _] 1 hs hd ⟨s0,s3,s4,s5,trivial⟩
  ⟨sP bq,
   trivial⟩ ?_
 clear hs hd s0 s3 s4 s5;intro a w hb hs hd zl hh;replace zl:=lH hh 0 zl;clear hh;replace hl:=hl.after hb;replace hSS:=hSS.after hb;clear hb;show wpList _ _ _ [_,_,_,_] _ _
 refine tail_op rfl (fun K hK=>?_);have q31:=gL zl 0;have s31:=vL zl 0;refine op_app_u8 (.const (Value.slice none 0 0)) (.tmp 31) rfl (l:=[]) (l2:=l) rfl s31 (OwnB.nil B1 _) hl (by simp only[List.length_nil];omega) hSS.2.2.2.2.2.2.2.2 ?_;intro l1 A1 c1 w2 hl1 hn1 hown1 hbel _ _;clear q31;refine hK _ _ (tP hs hd zl ?_);clear hK K hs hd zl s31;intro a hs hd zl;replace hSS:=hSS.step hbel;clear hbel hl;refine tail_op rfl (fun K hK=>?_);go_simp;refine hK _ _ (tP hs hd zl ?_);clear hK K hs hd zl;intro a hs hd zl;have hb1:=bs_one w2 5 128;have hal:=bz_alloc (bz_refl w2) (.cells #[.int .u8 128] 5);replace hSS:=hSS.after hal;replace hown1:=hown1.after hal;clear hal;refine tail_op rfl (fun K hK=>?_);have q32:=gL zl 1;have q33:=gL zl 0;have s32:=vL zl 1;have s33:=vL zl 0;refine op_app_u8 (.tmp 32) (.tmp 33) rfl (l2:=[128]) (c2:=1) s32 s33 hown1 hb1 (by simp only[List.length_nil,List.length_cons]at hn1⊢;omega) hSS.2.2.2.2.2.2.2.2 ?_;intro P1 A2 c2 w3 hP1 _ hown2 hbel2 _ _;clear q32 q33;refine hK _ _ (tP hs hd zl ?_);clear hK K hs hd zl s32 s33;intro a hs hd zl;replace hSS:=hSS.step hbel2;replace hP1:Is P1 (l++128::List.replicate 0 0):=by unfold Is;rw[hP1.out,hl1.out];rfl
 clear hbel2 hb1 hown1 hn1 hl1;refine wn 1 ?_;clear hs hd zl;intro a hs hd zl;refine wp_seq ?_;refine wp_block ?_;obtain⟨s6,-,-,-,-,s0,s3,s4,s5,-⟩:=zl;refine ss_pad (n:=n) a _ hs hd s0 s3 s4 s5 s6 hP1 hn hn2 hSS hown2 ?_;clear hs hd s0 s3 s4 s5 s6 hSS hown2 hP1;rintro a w A3 c3 P2 hP2 hs hd ⟨s0,s3,s4,s5,s6,-⟩ hSS hown;refine inBlock_exit ?_;obtain⟨L8,hL⟩:∃L8,Is (8*n) L8:=is_self _;have hMl:(l++128::List.replicate (shaZeros n) 0:List Int).length≤900000000100:=by
  rw[List.length_append,List.length_cons,List.length_replicate,hn.out];unfold shaZeros;omega
 refine wp_seq ?_;refine wp_seq ?_;refine wp_region_list ?_;show wpList _ _ _ [_] _ _
 refine tail_op rfl (fun K hK=>?_);go_simp;refine hK _ _ ?_;clear hK K;refine act_put (d:=42) _ hs hd (by decide) [(0,_),(3,_),(4,_),(5,_),(6,_)] ⟨s0,s3,s4,s5,s6,trivial⟩ rfl ?_;clear hs hd s0 s3 s4 s5 s6;intro a hs hd zl;refine wp_block ?_;obtain⟨s42,s0,s3,s4,s5,s6,-⟩:=zl;refine ss_len (n:=n) a _ hs hd s0 s3 s4 s5 s6 s42 hP2 hL hMl hn2 hSS hown ?_;clear hs hd s0 s3 s4 s5 s6 s42 hSS hown;rintro a w A4 c4 P3 hP3 hs hd ⟨s0,s3,s4,s5,s6,-⟩ hSS hown;refine inBlock_exit ?_;have hpad:P3=padded l:=by rw[hP3.out,← hL.out,← hn.out];unfold padded shaTail;simp
 have hP3l:P3.length≤1000000000000:=by rw[hP3.out,List.length_append];simp only[be64,List.length_cons,List.length_nil];omega
 have hPm:P3.length % 64=0:=by rw[hpad];exact padded_mod l
 have hP8:Bytes P3:=by rw[hpad];exact hl8.append (shaTail_bytes _)
 have hpadH:=Is.hid hpad;have hpos:P3≠[]:=by intro e;rw[e]at hpad;unfold padded shaTail at hpad;simp at hpad
 clear hpad;obtain⟨b,cur,rfl,hbB,-,-,-,-,-⟩:=hown.form.resolve_left (fun h=>hpos h.2.2);have hM:BytesAt w b 0 P3 0 P3.length:=fun j hj=>by
  obtain⟨b',o',e,_,hc⟩:=hown.bs j hj;injection e with e;injection e with e1 e2;subst e1 e2;rw[show P3.getD (0+j) 0=P3.getD j 0 by rw[Nat.zero_add]];exact hc
 refine wp_seq ?_;refine wp_region_list ?_;show wpList _ _ _ [_] _ _
 refine tail_op rfl (fun K hK=>?_);go_simp;refine hK _ _ ?_;clear hK K;refine act_put (d:=8) _ hs hd (by decide) [(0,_),(3,_),(4,_),(5,_),(6,_)] ⟨s0,s3,s4,s5,s6,trivial⟩ rfl ?_;clear hs hd s0 s3 s4 s5 s6;intro a hs hd zl;refine wn 1 ?_;clear hs hd zl;intro a hs hd zl;refine wp_block ?_;obtain⟨s9,s8,s0,s3,s4,s5,s6,-⟩:=zl;refine ss_blocks (n:=n) (N:=P3.length) a _ hs hd s0 s3 s4 s5 s6 s8 s9 hPm hP3l hP8 hbB hSS hM ?_;clear hs hd s0 s3 s4 s5 s6 s8 s9 hSS hM hown;rintro a w hs hd ⟨s0,s3,s4,s5,s6,s8,-⟩ hSS;refine inBlock_exit ?_;obtain⟨S,hS⟩:∃S,Is (shaBlks P3 0 (P3.length / 64) sha0) S:=is_self _;rw[hS.out]at hSS;have hU:St32 S:=by rw[← hS.out];exact shaBlks_U32 _ _ _ _ sha0_U32
 refine wp_seq ?_;refine wp_region_list ?_;show wpList _ _ _ [_] _ _
 refine tail_op rfl (fun K hK=>?_);go_simp;refine hK _ _ ?_;clear hK K;refine act_put (d:=24) _ hs hd (by decide) [(3,_)] ⟨s3,trivial⟩ rfl ?_;clear hs hd s3;intro a hs hd zl;refine wp_seq ?_;refine wp_seq ?_;refine wp_region_list ?_;show wpList _ _ _ [_,_] _ _
 refine tail_op rfl (fun K hK=>?_);have q3:=gL zl 1;have s3:=vL zl 1;refine op_load_row 97 (.tmp 3) rfl H s3 _ _ _ hSS.2.1 rfl rfl (show _=some 8 by kernel_rfl) ?_;clear q3;refine hK _ _ (tP hs hd zl ?_);clear hK K hs hd zl s3;intro a hs hd zl;refine wn 1 ?_;clear hs hd zl;intro a hs hd zl;refine wp_block ?_;have s24:=vL zl 2;have s280:=vL zl 1;have s281:=vL zl 0;refine ss_out (S:=S) (w0:=w0) a _ hs hd s24 s280 s281 hU hSS.1 ?_;clear hs hd s24 s280 s281 hSS;obtain⟨-,-,-,-,-⟩:=zl;rintro a w A5 c5 P5 hP5 hs hd ⟨s24,-⟩ hB hown5;refine inBlock_exit ?_;refine wp_seq ?_;refine fl2 (F:=[(24,_)]) [.eq 299 _] 1 hs hd ⟨s24,trivial⟩
  ⟨sP bq,
   trivial⟩ ?_
 clear hs hd s24;intro a w hb hs hd zl hh;replace zl:=lH hh 0 zl;clear hh;replace hown5:=hown5.after hb;replace hB:=bz_then hB hb;clear hb;refine wn 1 ?_;clear hs hd zl;intro a hs hd zl;refine wp_ret ?_;have he:P5=sha l:=by rw[hP5.out];unfold sha;rw[← hpadH.out,hS.out]
 exact end_tmp rfl hd (vL zl 0) (OutB.mk' he hown5 hB)
theorem own_one{w:World}{base g:Nat}{x:Int}(h:Blk w g 5 #[.int .u8 x])(hb:base≤g):OwnB base w (some ⟨g,0,none⟩) 1 [x]:=
 ⟨rfl,.inr ⟨g,1,_,rfl,hb,h,Nat.le_refl _,by decide,rfl,rfl⟩⟩
theorem c_LeafSum(A:Option Addr)(c:Nat)(p:List Int)(w:World)(hp0:Bs w A p)(h80:Bytes p)(hlen:p.length≤800000000000):
  Calls Tryz.prog 62 #[.slice A p.length c] w (OutB w (sha (0::p))):=by
 refine enter_abs Tryz.func62 rfl 7 rfl (by simp) ?_;intro a hs hd hargs;have s0:=hargs 0 _ rfl;clear hargs;have hB:=bz_refl w;refine wp_seq ?_;refine wp_region_list ?_;show wpList _ _ _ [_] _ _
 refine tail_op rfl (fun K hK=>?_);go_simp;refine hK _ _ ?_;clear hK K;refine act_put (d:=2) _ hs hd (by decide) [(0,_)] ⟨s0,trivial⟩ rfl ?_;clear hs hd s0;intro a hs hd zl;refine wp_seq ?_;refine wp_region_list ?_;show wpList _ _ _ [_,_,_,_,_] _ _
 refine tail_op rfl (fun K hK=>?_);go_simp;refine hK _ _ (tP hs hd zl ?_);clear hK K hs hd zl;intro a hs hd zl;obtain⟨g,hE⟩:∃g,Is w.heap.size g:=is_self _;have hBg':w.heap.size≤g:=Nat.le_of_eq hE.out;have hBW:=Nat.le_trans hB.size hBg';have hfg:Far A p (some g):=hp0.far hBg';generalize hw1:World.alloc w _=w1;have hown:OwnB g w1 (some ⟨g,0,none⟩) 1 [0]:=by rw[← hw1,← hE.out];exact own_one (Blk.new w _ _) (Nat.le_refl _)
 have hB1:Below w.heap.size w w1:=by rw[← hw1];exact bz_alloc (bz_refl w) _
 have hB0:g≤w1.heap.size:=by rw[← hE.out];exact hB1.size
 replace hB:=bz_then hB hB1;replace hp0:=hp0.after hB1;obtain⟨s3,-,s0,-⟩:=zl;rw[hE.out]at s3;clear hw1 hB1 hE hBg';refine tail_op rfl (fun K hK=>?_);have q0:=gd s0;go_simp;clear q0;refine hK _ _ ?_;clear hK K;refine act_put (d:=4) _ hs hd (by decide) [(0,_),(3,_)] ⟨s0,s3,trivial⟩ rfl ?_;clear hs hd s0 s3;intro a hs hd zl;refine tail_op rfl (fun K hK=>?_);have q3:=gL zl 2;have q4:=gL zl 0;have s3:=vL zl 2;have s4:=vL zl 0;refine op_app_u8 (.tmp 3) (.tmp 4) rfl (l:=[0]) s3 s4 hown hp0 (by simp only[List.length_cons,List.length_nil];omega) hB0 ?_;intro l1 A1 c1 w2 hl1 hn1 hown1 hbel hg1 _;clear q3 q4;refine hK _ _ (tP hs hd zl ?_);clear hK K hs hd zl s3 s4;intro a hs hd zl;replace hB:=hB.trans (hbel.mono hBW);refine tail_op rfl (fun K hK=>?_);have q5:=gL zl 0;go_simp;refine(c_specSum A1 c1 l1 _ hown1.bs (by rw[hl1.out];exact(one_byte (by decide) (by decide)).append h80) (by simp only[List.length_cons,List.length_nil]at hn1;omega)).mono ?_;rintro e w4 ⟨l3,A3,c3,hl3,rfl,hown3,hb3⟩;clear q5;refine hK _ _ (tP hs hd zl ?_);clear hK K hs hd zl;intro a hs hd zl;have hown4:=hown3.less hB.size;replace hB:=bz_then hB hb3;refine wn 1 ?_;clear hs hd zl;intro a hs hd zl;refine wp_ret ?_;exact end_tmp rfl hd (vL zl 0) (OutB.mk' (by rw[hl3.out,hl1.out];simp) hown4 hB)
theorem c_InnerSum(A:Option Addr)(c:Nat)(p:List Int)(A':Option Addr)(c':Nat)(p':List Int)(w:World)(hp0:Bs w A p)(h80:Bytes p)(hp1:Bs w A' p')(h81:Bytes p')(hlen:p.length+p'.length≤800000000000):
  Calls Tryz.prog 64 #[.slice A p.length c,.slice A' p'.length c'] w (OutB w (sha (1::(p++p')))):=by
 refine enter_abs Tryz.func64 rfl 11 rfl (by simp) ?_;intro a hs hd hargs;have s0:=hargs 0 _ rfl;have s1:=hargs 1 _ rfl;clear hargs;have hB:=bz_refl w;refine wp_seq ?_;refine wp_region_list ?_;show wpList _ _ _ [_] _ _
 refine tail_op rfl (fun K hK=>?_);go_simp;refine hK _ _ ?_;clear hK K;refine act_put (d:=4) _ hs hd (by decide) [(0,_),(1,_)] ⟨s0,s1,trivial⟩ rfl ?_;clear hs hd s0 s1;intro a hs hd zl;refine wp_seq ?_;refine wp_region_list ?_;show wpList _ _ _ [_,_,_,_,_,_,_] _ _
 refine tail_op rfl (fun K hK=>?_);go_simp;refine hK _ _ (tP hs hd zl ?_);clear hK K hs hd zl;intro a hs hd zl;obtain⟨g,hE⟩:∃g,Is w.heap.size g:=is_self _;have hBg':w.heap.size≤g:=Nat.le_of_eq hE.out;have hBW:=Nat.le_trans hB.size hBg';have hfg:Far A p (some g)∧Far A' p' (some g):=⟨hp0.far hBg',hp1.far hBg'⟩;generalize hw1:World.alloc w _=w1;have hown:OwnB g w1 (some ⟨g,0,none⟩) 1 [1]:=by rw[← hw1,← hE.out];exact own_one (Blk.new w _ _) (Nat.le_refl _)
 have hB1:Below w.heap.size w w1:=by rw[← hw1];exact bz_alloc (bz_refl w) _
 have hB0:g≤w1.heap.size:=by rw[← hE.out];exact hB1.size
 replace hB:=bz_then hB hB1;replace hp0:=hp0.after hB1;replace hp1:=hp1.after hB1;obtain⟨s5,-,s0,s1,-⟩:=zl;rw[hE.out]at s5;clear hw1 hB1 hE hBg';refine tail_op rfl (fun K hK=>?_);have q0:=gd s0;go_simp;clear q0;refine hK _ _ ?_;clear hK K;refine act_put (d:=6) _ hs hd (by decide) [(0,_),(1,_),(5,_)] ⟨s0,s1,s5,trivial⟩ rfl ?_;clear hs hd s0 s1 s5;intro a hs hd zl;refine tail_op rfl (fun K hK=>?_);have q5:=gL zl 3;have q6:=gL zl 0;have s5:=vL zl 3;have s6:=vL zl 0;refine op_app_u8 (.tmp 5) (.tmp 6) rfl (l:=[1]) s5 s6 hown hp0 (by simp only[List.length_cons,List.length_nil];omega) hB0 ?_;intro l1 A1 c1 w2 hl1 hn1 hown1 hbel hg1 _;clear q5 q6;refine hK _ _ (tP hs hd zl ?_);clear hK K hs hd zl s5 s6;intro a hs hd zl;replace hB:=hB.trans (hbel.mono hBW);have hB0':g≤_:=Nat.le_trans hB0 hg1.size;replace hp1:=hp1.grown hg1 hfg.2;refine wn 1 ?_;clear hs hd zl;intro a hs hd zl;refine tail_op rfl (fun K hK=>?_);have q7:=gL zl 1;have q8:=gL zl 0;have s7:=vL zl 1;have s8:=vL zl 0;refine op_app_u8 (.tmp 7) (.tmp 8) rfl s7 s8 hown1 hp1 (by simp only[List.length_cons,List.length_nil]at hn1;omega) hB0' ?_;intro l2 A2 c2 w3 hl2 hn2 hown2 hbel2 _ _;clear q7 q8;refine hK _ _ (tP hs hd zl ?_);clear hK K hs hd zl s7 s8;intro a hs hd zl;replace hB:=hB.trans (hbel2.mono hBW);refine tail_op rfl (fun K hK=>?_);have q9:=gL zl 0;go_simp;refine(c_specSum A2 c2 l2 _ hown2.bs (by rw[hl2.out,hl1.out];exact((one_byte (by decide) (by decide)).append h80).append h81) (by simp only[List.length_cons,List.length_nil]at hn1;omega)).mono ?_;rintro e w4 ⟨l3,A3,c3,hl3,rfl,hown3,hb3⟩;clear q9;refine hK _ _ (tP hs hd zl ?_);clear hK K hs hd zl;intro a hs hd zl;have hown4:=hown3.less hB.size;replace hB:=bz_then hB hb3;refine wn 1 ?_;clear hs hd zl;intro a hs hd zl;refine wp_ret ?_;exact end_tmp rfl hd (vL zl 0) (OutB.mk' (by rw[hl3.out,hl2.out,hl1.out];simp) hown4 hB)
theorem Ls0.at_{w:World}{A:Option Addr}{ls:List (List Int)}(h:Ls0 w A ls)(hn:0<ls.length):∃b o,A=some ⟨b,o,none⟩:=by
 obtain⟨b,o,_,_,h1,_⟩:=h 0 hn;exact⟨b,o,h1⟩
theorem Ls0.take{w:World}{A:Option Addr}{ls:List (List Int)}(h:Ls0 w A ls)(k:Nat):Ls0 w A (ls.take k):=fun i hi=>by
 rw[List.length_take]at hi;have e:(ls.take k).getD i []=ls.getD i []:=by rw[List.getD_eq_getElem?_getD,List.getElem?_take,if_pos (by omega),← List.getD_eq_getElem?_getD]
 rw[e];exact h i (by omega)
theorem Ls0.drop{w:World}{b o:Nat}{ls:List (List Int)}(h:Ls0 w (some ⟨b,o,none⟩) ls)(k:Nat):Ls0 w (some ⟨b,o+k,none⟩) (ls.drop k):=fun i hi=>by
 rw[List.length_drop]at hi;have e:(ls.drop k).getD i []=ls.getD (k+i) []:=by rw[List.getD_eq_getElem?_getD,List.getElem?_drop,← List.getD_eq_getElem?_getD]
 rw[e];obtain⟨b',o',Ai,ci,h1,h2,h3,h4⟩:=h (k+i) (by omega);injection h1 with h1;injection h1 with e1 e2;subst e1 e2;exact⟨_,_,Ai,ci,rfl,h2,by rw[Nat.add_assoc];exact h3,h4⟩
theorem c_specRoot:∀(f:Nat) (ls:List (List Int)) (N:Nat) (A:Option Addr) (c:Nat) (w:World),Is ls.length N→N≤f→N≤20→N≤c→Ls0 w A ls→Small ls→0<f→
  Calls Tryz.prog 47 #[.slice A N c] w fun e w'=>∃v,e=.returned v∧BsAt w.heap.size (rootN f ls) v w'∧Below w.heap.size w w':=by
 intro f;induction f with
 |zero=>exact fun _ _ _ _ _ _ _ _ _ _ _ h=>absurd h (by omega)
 |succ f ih=>
  intro ls N A c w hN hNf hN20 hNc hL hS _;rw[rootN,hN.out];refine enter_abs Tryz.func47 rfl 27 rfl (by simp) ?_;intro a hs hd hargs;have s0:=hargs 0 _ rfl;clear hargs;have hB:=bz_refl w;rcases(by omega:N=0∨N=1∨2≤N)with h0|h1|h2
  ·subst h0;rw[if_pos rfl];refine wp_seq ?_;refine wp_region_list ?_;show wpList _ _ _ [_] _ _
   refine tail_op rfl (fun K hK=>?_);go_simp;refine hK _ _ ?_;clear hK K;refine act_put (d:=2) _ hs hd (by decide) [(0,_)] ⟨s0,trivial⟩ rfl ?_;clear hs hd s0;intro a hs hd e;obtain⟨s2,s0,-⟩:=e;clear s2;refine wp_seq ?_;refine wp_seq ?_;refine wp_flow2_use [(0,_)]
    [FItem.eq 4 (_)]
    1 27 (by kernel_rfl) (by kernel_rfl) (by kernel_rfl) (by kernel_rfl) hs hd ⟨s0,trivial⟩
    ⟨(fun a u hb hs hl hd K hK=>by
      obtain⟨l0,-⟩:=hl;have s0:=gd l0;clear hd;refine step_plain rfl ?_;go_simp;exact hK _ _ (Below.refl _ _) (eq_put hs (by decide))),
     trivial⟩ ?_
   clear hs hd s0;intro a w hb hs hd hl hh;obtain⟨s0,-⟩:=hl;have s4:=hold_eq hh 0 rfl;clear hh;replace hL:=hL.after hb;replace hB:=bz_then hB hb;clear hb;show wpList _ _ _ [_] _ _
   refine tail_op rfl (fun K hK=>?_);have q4:=gd s4;go_simp;clear q4;refine hK _ _ ?_;clear hK K;refine act_put (d:=5) _ hs hd (by decide) [(0,_),(4,_)] ⟨s0,s4,trivial⟩ rfl ?_;clear hs hd s0 s4;intro a hs hd e;obtain⟨s5,s0,s4,-⟩:=e;clear s4;refine wp_block ?_;refine wp_seq ?_;refine wp_flow2_use [(0,_),(5,_)]
    [FItem.eq 7 (_)]
    1 27 (by kernel_rfl) (by kernel_rfl) (by kernel_rfl) (by kernel_rfl) hs hd ⟨s0,s5,trivial⟩
    ⟨(fun a u hb hs hl hd K hK=>by
      obtain⟨-,l5,-⟩:=hl;have s5:=gd l5;clear hd;refine step_plain rfl ?_;go_simp;exact hK _ _ (Below.refl _ _) (eq_put hs (by decide))),
     trivial⟩ ?_
   clear hs hd s0 s5;intro a w hb hs hd hl hh;obtain⟨s0,s5,-⟩:=hl;have s7:=hold_eq hh 0 rfl;clear hh;replace hL:=hL.after hb;replace hB:=bz_then hB hb;clear hb;show wpList _ _ _ [_] _ _
   refine tail_op rfl (fun K hK=>?_);have q7:=gd s7;go_simp;clear q7;refine hK _ _ ?_;clear hK K;refine act_put (d:=6) _ hs hd (by decide) [(0,_),(5,_),(7,_)] ⟨s0,s5,s7,trivial⟩ rfl ?_;clear hs hd s0 s5 s7;intro a hs hd e;obtain⟨s6,s0,s5,s7,-⟩:=e;clear s7;refine wp_cond_true s6 ?_;refine wp_seq ?_;refine wp_region_list ?_;show wpList _ _ _ [_,_] _ _
   refine tail_op rfl (fun K hK=>?_);go_simp;refine(c_specSum none 0 [] _ (Bs.nil _ _) Bytes.nil (by decide)).mono ?_;intro e w3 h;obtain⟨v,rfl,hv,hb2⟩:=h.read.at_ hB.size;refine hK _ _ ?_;clear hK K;refine act_put (d:=8) _ hs hd (by decide) [(0,_),(5,_),(6,_)] ⟨s0,s5,s6,trivial⟩ rfl ?_;clear hs hd s0 s5 s6;intro a hs hd e;obtain⟨s8,s0,s5,s6,-⟩:=e;replace hB:=bz_then hB hb2;clear hb2 hL;refine tail_op rfl (fun K hK=>?_);have q8:=gd s8;go_simp;clear q8;refine hK _ _ ?_;clear hK K;refine act_put (d:=2) _ hs hd (by decide) [(0,_),(5,_),(6,_),(8,_)] ⟨s0,s5,s6,s8,trivial⟩ rfl ?_;clear hs hd s0 s5 s6 s8;intro a hs hd e;obtain⟨s2,s0,s5,s6,s8,-⟩:=e;clear s0 s5 s6 s8;refine wp_ret ?_;repeat first|refine then_ret ?_|refine inBlock_ret ?_
   exact end_tmp rfl hd s2 ⟨v,rfl,hv,hB⟩
  ·subst h1;rw[if_neg (by decide),if_pos rfl];refine wp_seq ?_;refine wp_region_list ?_;show wpList _ _ _ [_] _ _
   refine tail_op rfl (fun K hK=>?_);go_simp;refine hK _ _ ?_;clear hK K;refine act_put (d:=2) _ hs hd (by decide) [(0,_)] ⟨s0,trivial⟩ rfl ?_;clear hs hd s0;intro a hs hd e;obtain⟨s2,s0,-⟩:=e;clear s2;refine wp_seq ?_;refine wp_seq ?_;refine wp_flow2_use [(0,_)]
    [FItem.eq 4 (_)]
    1 27 (by kernel_rfl) (by kernel_rfl) (by kernel_rfl) (by kernel_rfl) hs hd ⟨s0,trivial⟩
    ⟨(fun a u hb hs hl hd K hK=>by
      obtain⟨l0,-⟩:=hl;have s0:=gd l0;clear hd;refine step_plain rfl ?_;go_simp;exact hK _ _ (Below.refl _ _) (eq_put hs (by decide))),
     trivial⟩ ?_
   clear hs hd s0;intro a w hb hs hd hl hh;obtain⟨s0,-⟩:=hl;have s4:=hold_eq hh 0 rfl;clear hh;replace hL:=hL.after hb;replace hB:=bz_then hB hb;clear hb;show wpList _ _ _ [_] _ _
   refine tail_op rfl (fun K hK=>?_);have q4:=gd s4;go_simp;clear q4;refine hK _ _ ?_;clear hK K;refine act_put (d:=5) _ hs hd (by decide) [(0,_),(4,_)] ⟨s0,s4,trivial⟩ rfl ?_;clear hs hd s0 s4;intro a hs hd e;obtain⟨s5,s0,s4,-⟩:=e;clear s4;refine wp_block ?_;refine wp_seq ?_;refine wp_flow2_use [(0,_),(5,_)]
    [FItem.eq 7 (_)]
    1 27 (by kernel_rfl) (by kernel_rfl) (by kernel_rfl) (by kernel_rfl) hs hd ⟨s0,s5,trivial⟩
    ⟨(fun a u hb hs hl hd K hK=>by
      obtain⟨-,l5,-⟩:=hl;have s5:=gd l5;clear hd;refine step_plain rfl ?_;go_simp;exact hK _ _ (Below.refl _ _) (eq_put hs (by decide))),
     trivial⟩ ?_
   clear hs hd s0 s5;intro a w hb hs hd hl hh;obtain⟨s0,s5,-⟩:=hl;have s7:=hold_eq hh 0 rfl;clear hh;replace hL:=hL.after hb;replace hB:=bz_then hB hb;clear hb;show wpList _ _ _ [_] _ _
   refine tail_op rfl (fun K hK=>?_);have q7:=gd s7;go_simp;clear q7;refine hK _ _ ?_;clear hK K;refine act_put (d:=6) _ hs hd (by decide) [(0,_),(5,_),(7,_)] ⟨s0,s5,s7,trivial⟩ rfl ?_;clear hs hd s0 s5 s7;intro a hs hd e;obtain⟨s6,s0,s5,s7,-⟩:=e;clear s7;refine wp_cond_false s6 ?_;refine wp_seq ?_;refine wp_flow2_use [(0,_),(5,_),(6,_)]
    [FItem.eq 10 (_)]
    1 27 (by kernel_rfl) (by kernel_rfl) (by kernel_rfl) (by kernel_rfl) hs hd ⟨s0,s5,s6,trivial⟩
    ⟨(fun a u hb hs hl hd K hK=>by
      obtain⟨-,l5,-,-⟩:=hl;have s5:=gd l5;clear hd;refine step_plain rfl ?_;go_simp;exact hK _ _ (Below.refl _ _) (eq_put hs (by decide))),
     trivial⟩ ?_
   clear hs hd s0 s5 s6;intro a w hb hs hd hl hh;obtain⟨s0,-,-,-⟩:=hl;have s10:=hold_eq hh 0 rfl;clear hh;replace hL:=hL.after hb;replace hB:=bz_then hB hb;clear hb;show wpList _ _ _ [_] _ _
   refine tail_op rfl (fun K hK=>?_);have q10:=gd s10;go_simp;clear q10;refine hK _ _ ?_;clear hK K;refine act_put (d:=9) _ hs hd (by decide) [(0,_),(10,_)] ⟨s0,s10,trivial⟩ rfl ?_;clear hs hd s0 s10;intro a hs hd e;obtain⟨s9,s0,s10,-⟩:=e;clear s10;refine wp_cond_true s9 ?_;refine wp_seq ?_;obtain⟨b,o,Ai,ci,rfl,hbw,c0,hbi,hci,hfi⟩:=hL 0 (by rw[hN.out];decide);rw[Nat.add_zero]at c0;obtain⟨x0,hx0⟩:∃x0,Is (ls.getD 0 []) x0:=is_self _;have hsm:=hS.get (i:=0) (by rw[hN.out];decide);rw[hx0.out]at c0 hbi hci hfi hsm⊢;refine wp_flow2_use [(0,_),(9,_)]
    [FItem.eq 11 (_),FItem.eq 12 (_),FItem.eq 13 (_)]
    3 27 (by kernel_rfl) (by kernel_rfl) (by kernel_rfl) (by kernel_rfl) hs hd ⟨s0,s9,trivial⟩
    ⟨(fun a u hb hs hl hd K hK=>by
      obtain⟨l0,-,-⟩:=hl;have s0:=gd l0;clear hd;refine step_plain rfl ?_;go_simp;exact hK _ _ (Below.refl _ _) (eq_put hs (by decide))),
     (fun a u hb hs hl hd K hK=>by
      have s11:=gd (dep_get hd 0 (by kernel_rfl) rfl);clear hd;refine step_plain rfl ?_;go_simp;exact hK _ _ (Below.refl _ _) (eq_put hs (by decide))),
     (fun a u hb hs hl hd K hK=>by
      have s12:=gd (dep_get hd 1 (by kernel_rfl) rfl);have c0:=cell_up hb c0;clear hd;refine step_plain rfl ?_;go_simp;exact hK _ _ (Below.refl _ _) (eq_put hs (by decide))),
     trivial⟩ ?_
   clear hs hd s0 s9;intro a w hb hs hd hl hh;obtain⟨-,-,-⟩:=hl;have s13:=hold_eq hh 2 rfl;clear hh;replace hL:=hL.after hb;replace hbi:=hbi.after hb;replace c0:=cell_up hb c0;replace hB:=bz_then hB hb;clear hb;show wpList _ _ _ [_,_] _ _
   refine tail_op rfl (fun K hK=>?_);have q13:=gd s13;go_simp;refine(c_LeafSum Ai ci x0 _ hbi hsm.1 (by have:=hsm.2;omega)).mono ?_;intro e w3 h;obtain⟨v,rfl,hv,hb2⟩:=h.read.at_ hB.size;clear q13;refine hK _ _ ?_;clear hK K;refine act_put (d:=14) _ hs hd (by decide) [(13,_)] ⟨s13,trivial⟩ rfl ?_;clear hs hd s13;intro a hs hd e;obtain⟨s14,s13,-⟩:=e;replace hB:=bz_then hB hb2;refine tail_op rfl (fun K hK=>?_);have q14:=gd s14;go_simp;clear q14;refine hK _ _ ?_;clear hK K;refine act_put (d:=2) _ hs hd (by decide) [(13,_),(14,_)] ⟨s13,s14,trivial⟩ rfl ?_;clear hs hd s13 s14;intro a hs hd e;obtain⟨s2,s13,s14,-⟩:=e;clear s13 s14;refine wp_ret ?_;repeat first|refine then_ret ?_|refine inBlock_ret ?_
   exact end_tmp rfl hd s2 ⟨v,rfl,hv,hB⟩
  ·rw[if_neg (by omega),if_neg (by omega)];have e0:(N == 0)=false:=by rw[beq_eq_false_iff_ne];omega
   have e1:(N == 1)=false:=by rw[beq_eq_false_iff_ne];omega
   have e0':((N:Int) == 0)=false:=by rw[beq_eq_false_iff_ne];omega
   have e1':((N:Int) == 1)=false:=by rw[beq_eq_false_iff_ne];omega
   obtain⟨b,o,rfl⟩:=hL.at_ (by rw[hN.out];omega);obtain⟨k,hk⟩:∃k,Is (splitN N) k:=is_self _;have hk2:=splitN_lt h2 (by omega);rw[hk.out]at hk2⊢;obtain⟨hk0,hk1⟩:=hk2;have hkc:¬ (c=k):=by omega
   have hk3:(k:Int)≤(N:Int):=by omega
   have hk4:(k:Int)≤(c:Int):=by omega
   have hk5:(0:Int)≤(k:Int):=by omega
   have hk6:k≤N:=by omega
   have hk7:k≤c:=by omega
   refine wp_seq ?_;refine wp_region_list ?_;show wpList _ _ _ [_] _ _
   refine tail_op rfl (fun K hK=>?_);go_simp;refine hK _ _ ?_;clear hK K;refine act_put (d:=2) _ hs hd (by decide) [(0,_)] ⟨s0,trivial⟩ rfl ?_;clear hs hd s0;intro a hs hd e;obtain⟨s2,s0,-⟩:=e;clear s2;refine wp_seq ?_;refine wp_seq ?_;refine wp_flow2_use [(0,_)]
    [FItem.eq 4 (_)]
    1 27 (by kernel_rfl) (by kernel_rfl) (by kernel_rfl) (by kernel_rfl) hs hd ⟨s0,trivial⟩
    ⟨(fun a u hb hs hl hd K hK=>by
      obtain⟨l0,-⟩:=hl;have s0:=gd l0;clear hd;refine step_plain rfl ?_;go_simp;exact hK _ _ (Below.refl _ _) (eq_put hs (by decide))),
     trivial⟩ ?_
   clear hs hd s0;intro a w hb hs hd hl hh;obtain⟨s0,-⟩:=hl;have s4:=hold_eq hh 0 rfl;clear hh;replace hL:=hL.after hb;replace hB:=bz_then hB hb;clear hb;show wpList _ _ _ [_] _ _
   refine tail_op rfl (fun K hK=>?_);have q4:=gd s4;go_simp;clear q4;refine hK _ _ ?_;clear hK K;refine act_put (d:=5) _ hs hd (by decide) [(0,_),(4,_)] ⟨s0,s4,trivial⟩ rfl ?_;clear hs hd s0 s4;intro a hs hd e;obtain⟨s5,s0,s4,-⟩:=e;clear s4;refine wp_block ?_;refine wp_seq ?_;refine wp_flow2_use [(0,_),(5,_)]
    [FItem.eq 7 (_)]
    1 27 (by kernel_rfl) (by kernel_rfl) (by kernel_rfl) (by kernel_rfl) hs hd ⟨s0,s5,trivial⟩
    ⟨(fun a u hb hs hl hd K hK=>by
      obtain⟨-,l5,-⟩:=hl;have s5:=gd l5;clear hd;refine step_plain rfl ?_;go_simp;exact hK _ _ (Below.refl _ _) (eq_put hs (by decide))),
     trivial⟩ ?_
   clear hs hd s0 s5;intro a w hb hs hd hl hh;obtain⟨s0,s5,-⟩:=hl;have s7:=hold_eq hh 0 rfl;clear hh;replace hL:=hL.after hb;replace hB:=bz_then hB hb;clear hb;show wpList _ _ _ [_] _ _
   refine tail_op rfl (fun K hK=>?_);have q7:=gd s7;go_simp;clear q7;refine hK _ _ ?_;clear hK K;refine act_put (d:=6) _ hs hd (by decide) [(0,_),(5,_),(7,_)] ⟨s0,s5,s7,trivial⟩ rfl ?_;clear hs hd s0 s5 s7;intro a hs hd e;obtain⟨s6,s0,s5,s7,-⟩:=e;clear s7;refine wp_cond_false s6 ?_;refine wp_seq ?_;refine wp_flow2_use [(0,_),(5,_),(6,_)]
    [FItem.eq 10 (_)]
    1 27 (by kernel_rfl) (by kernel_rfl) (by kernel_rfl) (by kernel_rfl) hs hd ⟨s0,s5,s6,trivial⟩
    ⟨(fun a u hb hs hl hd K hK=>by
      obtain⟨-,l5,-,-⟩:=hl;have s5:=gd l5;clear hd;refine step_plain rfl ?_;go_simp;exact hK _ _ (Below.refl _ _) (eq_put hs (by decide))),
     trivial⟩ ?_
   clear hs hd s0 s5 s6;intro a w hb hs hd hl hh;obtain⟨s0,-,-,-⟩:=hl;have s10:=hold_eq hh 0 rfl;clear hh;replace hL:=hL.after hb;replace hB:=bz_then hB hb;clear hb;show wpList _ _ _ [_] _ _
   refine tail_op rfl (fun K hK=>?_);have q10:=gd s10;go_simp;clear q10;refine hK _ _ ?_;clear hK K;refine act_put (d:=9) _ hs hd (by decide) [(0,_),(10,_)] ⟨s0,s10,trivial⟩ rfl ?_;clear hs hd s0 s10;intro a hs hd e;obtain⟨s9,s0,s10,-⟩:=e;clear s10;refine wp_cond_false s9 ?_;refine wp_skip ?_;refine wp_seq ?_;refine wp_flow2_use [(0,_),(9,_)]
    [FItem.eq 15 (_),FItem.eq 16 (_)]
    2 27 (by kernel_rfl) (by kernel_rfl) (by kernel_rfl) (by kernel_rfl) hs hd ⟨s0,s9,trivial⟩
    ⟨(fun a u hb hs hl hd K hK=>by
      obtain⟨l0,-,-⟩:=hl;have s0:=gd l0;clear hd;refine step_plain rfl ?_;go_simp;exact hK _ _ (Below.refl _ _) (eq_put hs (by decide))),
     (fun a u hb hs hl hd K hK=>by
      have s15:=gd (dep_get hd 0 (by kernel_rfl) rfl);clear hd;refine step_plain rfl ?_;go_simp;exact hK _ _ (Below.refl _ _) (eq_put hs (by decide))),
     trivial⟩ ?_
   clear hs hd s0 s9;intro a w hb hs hd hl hh;obtain⟨s0,-,-⟩:=hl;have s16:=hold_eq hh 1 rfl;clear hh;replace hL:=hL.after hb;replace hB:=bz_then hB hb;clear hb;show wpList _ _ _ [_,_] _ _
   refine tail_op rfl (fun K hK=>?_);have q16:=gd s16;go_simp;refine(c_spl N _ h2 hN20).mono ?_;rintro e w3 ⟨rfl,hw3⟩;subst hw3;rw[hk.out];clear q16;refine hK _ _ ?_;clear hK K;refine act_put (d:=17) _ hs hd (by decide) [(0,_),(16,_)] ⟨s0,s16,trivial⟩ rfl ?_;clear hs hd s0 s16;intro a hs hd e;obtain⟨s17,s0,s16,-⟩:=e;refine tail_op rfl (fun K hK=>?_);have q17:=gd s17;go_simp;clear q17;refine hK _ _ ?_;clear hK K;refine act_put (d:=3) _ hs hd (by decide) [(0,_),(16,_),(17,_)] ⟨s0,s16,s17,trivial⟩ rfl ?_;clear hs hd s0 s16 s17;intro a hs hd e;obtain⟨s3,s0,s16,s17,-⟩:=e;clear s16 s17;refine wp_seq ?_;have hSz:=hB.size;refine wp_flow2_use [(0,_),(3,_)]
    [FItem.eq 18 (_),FItem.eq 19 (_),FItem.eq 20 (_),FItem.bs 21 0 (rootN f (ls.take k)),FItem.eq 22 (_),FItem.eq 23 (_),FItem.eq 24 (_),FItem.bs 25 0 (rootN f (ls.drop k))]
    8 27 (by kernel_rfl) (by kernel_rfl) (by kernel_rfl) (by kernel_rfl) hs hd ⟨s0,s3,trivial⟩
    ⟨(fun a u hb hs hl hd K hK=>by
      obtain⟨l0,-,-⟩:=hl;have s0:=gd l0;clear hd;refine step_plain rfl ?_;go_simp;exact hK _ _ (Below.refl _ _) (eq_put hs (by decide))),
     (fun a u hb hs hl hd K hK=>by
      obtain⟨-,l3,-⟩:=hl;have s3:=gd l3;clear hd;refine step_plain rfl ?_;go_simp;exact hK _ _ (Below.refl _ _) (eq_put hs (by decide))),
     (fun a u hb hs hl hd K hK=>by
      have s18:=gd (dep_get hd 0 (by kernel_rfl) rfl);have s19:=gd (dep_get hd 1 (by kernel_rfl) rfl);clear hd;refine step_plain rfl ?_;go_simp;exact hK _ _ (Below.refl _ _) (eq_put hs (by decide))),
     (fun a u hb hs hl hd K hK=>by
      have s20:=gd (dep_get hd 2 (by kernel_rfl) rfl);clear hd;refine step_plain rfl ?_;go_simp;refine(ih (ls.take k) (k) (some ⟨b,o,none⟩) _ u ?_ (by omega) (by omega) (by omega) ((hL.after hb).take k) (hS.take k) (by omega)).mono ?_
      ·rw[Is,List.length_take,hN.out];omega
      rintro e w3 ⟨v,rfl,hv,hb2⟩;exact hK _ _ hb2 (bs_put hs (by decide) (hv.less (Nat.zero_le _)))),
     (fun a u hb hs hl hd K hK=>by
      obtain⟨l0,-,-⟩:=hl;have s0:=gd l0;clear hd;refine step_plain rfl ?_;go_simp;exact hK _ _ (Below.refl _ _) (eq_put hs (by decide))),
     (fun a u hb hs hl hd K hK=>by
      obtain⟨-,l3,-⟩:=hl;have s3:=gd l3;clear hd;refine step_plain rfl ?_;go_simp;exact hK _ _ (Below.refl _ _) (eq_put hs (by decide))),
     (fun a u hb hs hl hd K hK=>by
      have s22:=gd (dep_get hd 4 (by kernel_rfl) rfl);have s23:=gd (dep_get hd 5 (by kernel_rfl) rfl);clear hd;refine step_plain rfl ?_;go_simp;exact hK _ _ (Below.refl _ _) (eq_put hs (by decide))),
     (fun a u hb hs hl hd K hK=>by
      have s24:=gd (dep_get hd 6 (by kernel_rfl) rfl);clear hd;refine step_plain rfl ?_;go_simp;refine(ih (ls.drop k) (N-k) (some ⟨b,o+k,none⟩) _ u ?_ (by omega) (by omega) (by omega) ((hL.after hb).drop k) (hS.drop k) (by omega)).mono ?_
      ·rw[Is,List.length_drop,hN.out]
      rintro e w3 ⟨v,rfl,hv,hb2⟩;exact hK _ _ hb2 (bs_put hs (by decide) (hv.less (Nat.zero_le _)))),
     trivial⟩ ?_
   clear hs hd s0 s3;intro a w hb hs hd hl hh;obtain⟨-,-,-⟩:=hl;obtain⟨l6,A6,c6,hl6,s21,f6,k6,b6,n6⟩:=FItem.bs_holds.1 (hold_get hh 3);obtain⟨l7,A7,c7,hl7,s25,f7,k7,b7,n7⟩:=FItem.bs_holds.1 (hold_get hh 7);clear hh;replace hL:=hL.after hb;replace hB:=bz_then hB hb;clear hb;show wpList _ _ _ [_,_] _ _
   refine tail_op rfl (fun K hK=>?_);have q21:=gd s21;have q25:=gd s25;go_simp;refine(c_InnerSum A6 c6 l6 A7 c7 l7 _ b6 (by rw[hl6.out];exact rootN_bytes _ _) b7 (by rw[hl7.out];exact rootN_bytes _ _) (by rw[hl6.out,hl7.out,rootN_len,rootN_len];decide)).mono ?_;intro e w3 h;obtain⟨v,rfl,hv,hb2⟩:=h.read.at_ hB.size;rw[hl6.out,hl7.out]at hv;clear q21 q25;refine hK _ _ ?_;clear hK K;refine act_put (d:=26) _ hs hd (by decide) [(21,_),(25,_)] ⟨s21,s25,trivial⟩ rfl ?_;clear hs hd s21 s25;intro a hs hd e;obtain⟨s26,s21,s25,-⟩:=e;replace hB:=bz_then hB hb2;refine tail_op rfl (fun K hK=>?_);have q26:=gd s26;go_simp;clear q26;refine hK _ _ ?_;clear hK K;refine act_put (d:=2) _ hs hd (by decide) [(21,_),(25,_),(26,_)] ⟨s21,s25,s26,trivial⟩ rfl ?_;clear hs hd s21 s25 s26;intro a hs hd e;obtain⟨s2,s21,s25,s26,-⟩:=e;clear s21 s25 s26;refine wp_ret ?_;exact end_tmp rfl hd s2 ⟨v,rfl,hv,hB⟩
theorem bsl_info:(Tryz.prog.info? 32).map (fun i=>(i.zero,i.size,i.bytes))=some (some (.slice none 0 0),1,24):=by kernel_rfl
def OwnS(base:Nat)(w:World)(A:Option Addr)(c:Nat)(vs:List Value):Prop:=w.ownsRow base 32 1 (.slice A vs.length c) vs.length vs
theorem OwnS.nil(base:Nat)(w:World):OwnS base w none 0 []:=World.ownsRow_nil w base _ 1
theorem OwnS.form{base:Nat}{w:World}{A:Option Addr}{c:Nat}{vs:List Value}(h:OwnS base w A c vs):(A=none∧c=0∧vs=[])∨∃g cur,A=some ⟨g,0,none⟩∧base≤g∧g<w.heap.size∧Blk w g 32 cur∧vs.length≤c∧cur.toList.take vs.length=vs:=by
 rcases h.2 with⟨h1,h2⟩|⟨g,cap,cur,h1,h2,h3,h4,h5,h6,h7⟩
 ·left
  injection h1 with a b c;exact⟨a,c,List.eq_nil_of_length_eq_zero h2⟩
 ·right
  injection h1 with a b c;subst c;exact⟨g,cur,a,h2,(Array.getElem?_eq_some_iff.1 h3).1,h3,h4,by simpa using h7⟩
theorem OwnS.after{base:Nat}{w w':World}{A:Option Addr}{c:Nat}{vs:List Value}(h:OwnS base w A c vs)(hb:Below w.heap.size w w'):OwnS base w' A c vs:=by
 rcases h.2 with h1|⟨g,cap,cur,h1,h2,h3,h4⟩
 ·exact⟨h.1,.inl h1⟩
 ·exact⟨h.1,.inr ⟨g,cap,cur,h1,h2,(hb.block g (Array.getElem?_eq_some_iff.1 h3).1).trans h3,h4⟩⟩
theorem OwnS.new{base:Nat}{w:World}{g:Nat}{vs:List Value}(h:Blk w g 32 vs.toArray)(hb:base≤g)(hc:vs.length≤1000):OwnS base w (some ⟨g,0,none⟩) vs.length vs:=
 ⟨by rw[Nat.mul_one],.inr ⟨g,vs.length,_,rfl,hb,h,Nat.le_refl _,by unfold maxLen;omega,by simp,by simp⟩⟩
def LsV(w:World):List Value→List (List Int)→Prop
 | [],[]=>True
 |v::vs,l::ls=>BsAt 0 l v w∧LsV w vs ls
 |_,_=>False
theorem LsV.after{w w':World}(hb:Below w.heap.size w w'):∀{vs:List Value} {ls:List (List Int)},LsV w vs ls→LsV w' vs ls
 | [],[],_=>trivial
 |_::_,_::_,h=>⟨h.1.after hb,LsV.after hb h.2⟩
 | [],_::_,h=>h.elim
 |_::_,[],h=>h.elim
theorem LsV.append{w:World}:∀{vs us:List Value} {ls ks:List (List Int)},LsV w vs ls→LsV w us ks→LsV w (vs++us) (ls++ks)
 | [],_,[],_,_,k=>k
 |_::_,_,_::_,_,h,k=>⟨h.1,LsV.append h.2 k⟩
 | [],_,_::_,_,h,_=>h.elim
 |_::_,_,[],_,h,_=>h.elim
theorem LsV.length{w:World}:∀{vs:List Value} {ls:List (List Int)},LsV w vs ls→vs.length=ls.length
 | [],[],_=>rfl
 |_::_,_::_,h=>by simp[LsV.length h.2]
 | [],_::_,h=>h.elim
 |_::_,[],h=>h.elim
theorem LsV.get{w:World}:∀{vs:List Value} {ls:List (List Int)},LsV w vs ls→∀i,i<ls.length→∃v,vs[i]?=some v∧BsAt 0 (ls.getD i []) v w
 |_::_,_::_,h,0,_=>⟨_,rfl,h.1⟩
 |_::vs,_::ls,h,i+1,hi=>by
  obtain⟨v,h1,h2⟩:=LsV.get h.2 i (by simpa using hi);exact⟨v,by simpa using h1,by simpa using h2⟩
 | [],_::_,h,_,_=>h.elim
 |_,[],_,i,hi=>absurd hi (Nat.not_lt_zero i)
theorem OwnS.ls0{base:Nat}{w:World}{A:Option Addr}{c:Nat}{vs:List Value}{ls:List (List Int)}(h:OwnS base w A c vs)(hv:LsV w vs ls):Ls0 w A ls:=fun i hi=>by
 have hlen:=hv.length;rcases h.form with⟨_,_,h0⟩|⟨g,cur,h1,h2,h3,h4,h5,h6⟩
 ·rw[h0]at hlen;simp at hlen;omega
 ·obtain⟨v,hvi,l',Ai,ci,e1,e2,e3,e4,e5,_⟩:=hv.get i hi;subst e2;have e1:l'=ls.getD i []:=e1;rw[← e1];refine⟨g,0,Ai,ci,h1,h3,?_,e5,e4,e3⟩;rw[h4.cell,Nat.zero_add,← Array.getElem?_toList,← hvi,← h6,List.getElem?_take,if_pos (by omega)]
theorem op_app_bsl{o:Oper}{a:Act}{w:World}{Q:Exit→Act→World→Prop}{K:Act→World→Prop}(s x:Operand)(ho:o.op=.call {callee:=.builtin .append,args:=#[s,x],argTypes:=#[104,104]})
  {base g c c2:Nat}{A:Option Addr}{vs us:List Value}{t:TypeId}(hs:a.eval s=.slice A vs.length c)(hx:a.eval x=.slice (some ⟨g,0,none⟩) us.length c2)(hown:OwnS base w A c vs)(hg:Blk w g t us.toArray)(h1:∀u∈us,u.oneCell'=true)(hlen:vs.length+us.length≤1000)(hbase:base≤w.heap.size)
  (h:∀(A':Option Addr) (c':Nat) (w':World),OwnS base w' A' c' (vs++us)→Below base w w'→w.grownBy w' (blkOf A)→K (a.put o.dst (.slice A' (vs++us).length c')) w'):o.wp Tryz.prog a w K Q:=by
 obtain⟨i0,hi0,hz0,hz1,hz2⟩:=info_parts bsl_info;obtain⟨v',w',hrun,h2,h3,_,h5⟩:=run_append_own_at (P:=Tryz.prog) w base 104 o.type 32 i0 (.slice none 0 0) 1 24 Tryz.underlying104 hi0 hz0 hz1 hz2 rfl (by decide) _ _ _ hown ⟨g,0,none⟩ us.length c2 us (by rw[Nat.mul_one])
  (by
   intro j u hu;have hadd:(⟨g,0,none⟩:Addr).add j=⟨g,j,none⟩:=by unfold Addr.add;split <;> simp_all
   rw[hadd,hg.cell,List.getElem?_toArray];exact hu) h1 (by unfold maxLen;omega) (by omega) hbase
 rw[ownBlock_slice]at h3;have hv:∃A' c',v'=.slice A' (vs++us).length c':=by
  rcases h2.2 with⟨h,h0⟩|⟨g,cap,cur,h,_⟩
  ·exact⟨none,0,by rw[h,List.length_append,h0]⟩
  ·exact⟨_,cap,by rw[h,List.length_append]⟩
 obtain⟨A',c',rfl⟩:=hv;have hB:Below base w w':=⟨h3.os,h3.tape,h3.output,h3.size,fun k hk=>h3.block k (Nat.lt_of_lt_of_le hk hbase) (by
  rcases hown.form with⟨rfl,_,_⟩|⟨g',cur,rfl,hge,_⟩
  ·simp[blkOf]
  ·simp[blkOf];omega)⟩
 unfold Oper.wp execOp;simp only[ho,resolve,invoke,builtin,Sem.run_bind,Sem.run_pure,Result.andThen_ok,List.map_toArray,List.map_cons,List.map_nil,hs,hx,hrun];exact h A' c' w' (by unfold OwnS;rw[List.length_append];simpa using h2) hB h3
def LsAt(ls:List (List Int))(v:Value)(w:World):Prop:=∃vs A c,v=.slice A vs.length c∧OwnS 0 w A c vs∧LsV w vs ls
theorem LsAt.after{ls:List (List Int)}{v:Value}{w w':World}(h:LsAt ls v w)(hb:Below w.heap.size w w'):LsAt ls v w':=by
 obtain⟨vs,A,c,h1,h2,h3⟩:=h;exact⟨vs,A,c,h1,h2.after hb,h3.after hb⟩
def FItem.ls(t:Nat)(ls:List (List Int)):FItem:={reads:=[t],fact:=fun xs w=>∃v,xs=[v]∧LsAt ls v w,keeps:=fun _ _ _ hb ⟨v,h1,h2⟩=>⟨v,h1,h2.after hb⟩}
theorem FItem.ls_holds{t:Nat}{ls:List (List Int)}{a:Act}{w:World}:(FItem.ls t ls).holds a w↔LsAt ls (a.tmps.getD t undef) w:=by
 constructor
 ·rintro⟨v,h1,h2⟩;injection h1 with h1;have h1:a.tmps.getD t undef=v:=h1
  rwa [h1]
 ·exact fun h=>⟨_,rfl,h⟩
theorem ls_put{a:Act}{d:Nat}{ls:List (List Int)}{v:Value}{w:World}{sz:Nat}(hs:SzIs a sz)(hd:d<sz)(h:LsAt ls v w):(FItem.ls d ls).holds (a.put (some d) v) w:=FItem.ls_holds.2 (by rw[put_self a d v (by rw[hs.out];exact hd)];exact h)
theorem LsAt.new{w:World}{vs:List Value}{ls:List (List Int)}(hv:LsV w vs ls)(hc:vs.length≤1000):
  LsAt ls (.slice (some ⟨w.heap.size,0,none⟩) vs.length vs.length) (w.alloc (.cells vs.toArray 32)):=
 ⟨vs,_,_,rfl,OwnS.new (Blk.new w _ _) (Nat.zero_le _) hc,hv.after (bz_alloc (bz_refl w) _)⟩
theorem Ls0.bss{w:World}{A:Option Addr}{ls:List (List Int)}(h:Ls0 w A ls):Bss w A ls:=fun i hi=>by
 obtain⟨b,o,Ai,ci,h1,h2,h3,h4,h5,_⟩:=h i hi;exact⟨b,o,Ai,ci,h1,h2,h3,h4,h5⟩
theorem LsAt.joined{ls:List (List Int)}{v:Value}{w:World}(h:LsAt ls v w)(hn:ls.length≤10000000000000)(hl:(flat ls).length≤10000000000000):Calls Tryz.prog 44 #[v] w (OutB w (flat ls)):=by
 obtain⟨vs,A,c,rfl,h2,h3⟩:=h;rw[h3.length];exact c_joined A c ls w (h2.ls0 h3).bss hn hl
theorem OutB.at0{w w':World}{l:List Int}{e:Ending}(h:OutB w l e w'):∃v,e=.returned v∧BsAt 0 l v w'∧Below w.heap.size w w':=h.read.at_ (Nat.zero_le _)
theorem BsAt.one{B:Nat}{l:List Int}{v:Value}{w:World}(h:BsAt B l v w):v.oneCell'=true:=by
 obtain⟨l',A,c,_,rfl,_⟩:=h;rfl
section
variable{P:Program}{o:Oper}{a:Act}{w:World}{Q:Exit→Act→World→Prop}{K:Act→World→Prop}
theorem op_load_part(ty:TypeId)(x:Operand)(ho:o.op=.load ty x)(g off:Nat)(hx:a.eval x=.pointer (some ⟨g,off,none⟩))(t:TypeId)(cur part:Array Value)(d:TypeDesc)(hg:Blk w g t cur)(hoff:off+part.size≤cur.size)
  (hu:P.underlying ty=some d)(hd:(match d with| .struct _| .array _ _=>true|_=>false)=true)(hi:(P.info? ty).map (·.size)=some part.size)(hp:cur.extract off (off+part.size)=part)
  (h:K (a.put o.dst (.agg part)) w):o.wp P a w K Q:=by
 unfold Oper.wp execOp;have:=run_load_part (P:=P) ty g off t cur part.size d hg hoff hu hd hi;rw[hp]at this;simp only[ho,hx,Instr.loadAt,Instr.sureAddr,Sem.run_bind,Sem.run_pure,Result.andThen_ok,this];exact h
end
end Go.Proofs.YtjhnnjhaklohhaaGreatDoor
