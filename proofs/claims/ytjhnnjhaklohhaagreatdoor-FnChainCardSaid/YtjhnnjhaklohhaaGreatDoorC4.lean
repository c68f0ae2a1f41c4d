/- FnChain: the law's walk. FnChain: whatever the input, the law returns true, and its arguments read as they did; the table of SHA-256 as the program's text lays it. No condition. -/
import Derived.Test.YtjhnnjhaklohhaaGreatDoorC3
import Derived.Test.YtjhnnjhaklohhaaGreatDoorRows
import Derived.Test.YtjhnnjhaklohhaaGreatDoorCards
import Derived.Test.YtjhnnjhaklohhaaGreatDoorTie
import Derived.ProofKit
import Derived.OpenShut
import Derived.ChangeOld
import Derived.Below
import Derived.Lay
import Derived.LaidMore
import Derived.SevenTiedAt
import Derived.Deep.Slices
import Derived.Deep.Fields
import Derived.ChangeSame
import Derived.Carry
set_option linter.unusedVariables false
set_option linter.unusedSimpArgs false
set_option maxHeartbeats 4000000
set_option maxRecDepth 100000
namespace Go.Proofs.YtjhnnjhaklohhaaGreatDoor
open Go.RowKit
structure SlIn(r:Nl):Prop where
 fm:Fm r.A r.S.length r.c∨∃ad,r.A=some ad∧r.S=[]
 le:r.S.length≤r.c
 cap:r.c≤9223372036854775807
 p:∀s∈r.S,-9223372036854775808≤s.p∧s.p≤9223372036854775807
structure SlMd(r:Nl):Prop where
 ok:SetOk r.S
 n0:0<r.S.length
theorem u8_small{k:Nat}(h:k<8):IntKind.u8.wrap (k:Int)=k:=(IntKind.wrap_u8' _).trans (by omega)
theorem w_FnChain(R0:List Nl)(fr tu:Int)(A0:Option Addr)(c0:Nat)(w:World)(hR0:SlsAt w A0 R0)(hf0:Fm A0 R0.length c0∨∃ad,A0=some ad∧R0=[])(hle0:R0.length≤c0)(hc0:c0≤9223372036854775807)(hin:∀r∈R0,SlIn r)(hfr:-9223372036854775808≤fr∧fr≤9223372036854775807)(hto:-9223372036854775808≤tu∧tu≤9223372036854775807)(hKt:KTab w 1)(h0:1<w.heap.size):
  Calls Tryz.prog 3 #[.slice A0 R0.length c0,.int .i64 fr,.int .i64 tu] w fun e w'=>e=.returned (.bool true)∧Below w.heap.size w w':=by
 obtain⟨n0,hN0⟩:∃n,Is R0.length n:=is_self _;have hz:=c_fits3 R0 A0 c0;rw[hN0.out]at hz⊢;refine en (sz:=175) rfl rfl rfl fun a hs hd zl=>?_;have hB:=bz_refl w
 refine wp_seq (wp_region_list ?_);refine tx hs hd zl ?_;clear hs hd zl;intro a hs hd zl;change Code.wp _ _ _ _ _
 (repeat first|refine wp_seq ?_|refine wp_block ?_|refine wp_region_list ?_|(refine tx hs hd zl ?_;clear hs hd zl;intro a hs hd zl)|(refine tn hs hd zl ?_;clear hs hd zl;intro a hs hd zl)|refine ct zl ?_|refine cf zl ?_|refine wp_skip ?_)
 refine tc (hz w hR0) hs hd zl ?_;rintro _ u ⟨q,rfl,hq,hb⟩;refine⟨_,rfl,?_⟩;clear hs hd zl;intro a hs hd zl;clear hz;replace hB:=bz_then hB hb;(try clear hup);have hup:=bup hB;clear hb
 cases q with
 |false=>
  (repeat first|refine wp_seq ?_|refine wp_block ?_|refine wp_region_list ?_|(refine tx hs hd zl ?_;clear hs hd zl;intro a hs hd zl)|(refine tn hs hd zl ?_;clear hs hd zl;intro a hs hd zl)|refine ct zl ?_|refine cf zl ?_|refine wp_skip ?_)
  refine wp_ret ?_;(repeat first|refine then_ret ?_|refine inBlock_ret ?_);exact end_tmp rfl hd (sl zl 6) ⟨rfl,hB⟩
 |true=>
 obtain⟨-,hfit⟩:=hq rfl
 (repeat first|refine wp_seq ?_|refine wp_block ?_|refine wp_region_list ?_|(refine tx hs hd zl ?_;clear hs hd zl;intro a hs hd zl)|(refine tn hs hd zl ?_;clear hs hd zl;intro a hs hd zl)|refine ct zl ?_|refine cf zl ?_|refine wp_skip ?_)
 refine ta (cs:=#[.slice none 0 0]) hs hd zl ?_;intro g7 u hg7 hge7 hb;clear hs hd zl;intro a hs hd zl;have HG7:=Nat.le_trans hB.size hge7;replace hB:=bz_then hB hb;(try clear hup);have hup:=bup hB;clear hb;replace zl:=kp [0,1,2,6,7] zl;change Code.wp _ _ _ _ _;refine wp_seq ?_;refine wp_seq ?_;refine then_cut (fun a u'=>u'=u∧SzIs a 175∧DfNil a∧∃(A1:Option Addr) (c1 m:Nat),m≤8∧m≤n0∧SlsAt w A1 (R0.take m)∧LiveAll [(1,.int .i64 fr),(2,.int .i64 tu),(6,.bool false),(7,.pointer (some ⟨g7,0,none⟩)),(30,.slice A1 m c1),(31,.int .i64 ((m:Nat):Int)),(32,.int .i64 ((0:Nat):Int))] a) ?_ ?_
 ·rcases hf0 with (⟨rfl,rfl,hz0⟩|⟨b,o,rfl⟩)|⟨ad,rfl,hz0⟩
  ·rw[hN0.out]at hz0;subst hz0
   (repeat first|refine wp_seq ?_|refine wp_block ?_|refine wp_region_list ?_|(refine tx hs hd zl ?_;clear hs hd zl;intro a hs hd zl)|(refine tn hs hd zl ?_;clear hs hd zl;intro a hs hd zl)|refine ct zl ?_|refine cf zl ?_|refine wp_skip ?_)
   exact⟨rfl,hs,hd,none,0,0,by omega,by omega,⟨RowsAt.nil _ _ _,fun r hr=>by cases hr⟩,ks zl⟩
  ·(repeat first|refine wp_seq ?_|refine wp_block ?_|refine wp_region_list ?_|(refine tx hs hd zl ?_;clear hs hd zl;intro a hs hd zl)|(refine tn hs hd zl ?_;clear hs hd zl;intro a hs hd zl)|refine ct zl ?_|refine cf zl ?_|refine wp_skip ?_)
   obtain⟨m,hm⟩:∃m,m=min n0 8:=⟨_,rfl⟩;have e:(if(8:Int)<(n0:Int)then 8 else(n0:Int))=((m:Nat):Int):=by split <;> omega
   rw[e]at zl;rw[hN0.out]at hle0;have h1:m≤c0:=by omega
   have h1':(m:Int)≤(c0:Int):=by omega
   have h2:(0:Int)≤(m:Int):=by omega
   have h3:m≤8:=by omega
   have h4:m≤n0:=by omega
   clear hm e
   (repeat first|refine wp_seq ?_|refine wp_block ?_|refine wp_region_list ?_|(refine tx hs hd zl ?_;clear hs hd zl;intro a hs hd zl)|(refine tn hs hd zl ?_;clear hs hd zl;intro a hs hd zl)|refine ct zl ?_|refine cf zl ?_|refine wp_skip ?_)
   exact⟨rfl,hs,hd,some ⟨b,o,none⟩,c0,m,h3,h4,⟨hR0.rows.take m |> fun h=>by rw[show slRows (R0.take m)=(slRows R0).take m by simp[slRows,List.map_take]];exact h,fun r hr=>hR0.at_ r (List.mem_of_mem_take hr)⟩,ks zl⟩
  ·subst hz0;obtain rfl:0=n0:=hN0.out
   (repeat first|refine wp_seq ?_|refine wp_block ?_|refine wp_region_list ?_|(refine tx hs hd zl ?_;clear hs hd zl;intro a hs hd zl)|(refine tn hs hd zl ?_;clear hs hd zl;intro a hs hd zl)|refine ct zl ?_|refine cf zl ?_|refine wp_skip ?_)
   exact⟨rfl,hs,hd,some ad,c0,0,by omega,by omega,⟨RowsAt.nil _ _ _,fun r hr=>by cases hr⟩,ks zl⟩
 clear hs hd zl;rintro a _ ⟨rfl,hs,hd,A1,c1,m,hm8,hmn,hA1,zl⟩;have hin1:∀r∈R0.take m,SlIn r∧fitsB r.S=true:=fun r hr=>⟨hin r (List.mem_of_mem_take hr),hfit r (List.mem_of_mem_take hr)⟩
 have hlm:(R0.take m).length=m:=by rw[List.length_take,hN0.out];omega
 generalize R0.take m=R1 at hA1 hin1 hlm;have HLM:=Is.hid hlm;clear hlm hin hfit hq hf0 hle0 hc0 hR0 hup
 (repeat first|refine wp_seq ?_|refine wp_block ?_|refine wp_region_list ?_|(refine tx hs hd zl ?_;clear hs hd zl;intro a hs hd zl)|(refine tn hs hd zl ?_;clear hs hd zl;intro a hs hd zl)|refine ct zl ?_|refine cf zl ?_|refine wp_skip ?_)
 refine wp_loop (fun a v=>∃(k j:Nat) (R:List Nl) (A:Option Addr) (c:Nat),SzIs a 175∧DfNil a∧LiveAll [(1,.int .i64 fr),(2,.int .i64 tu),(6,.bool false),(7,.pointer (some ⟨g7,0,none⟩)),(30,.slice A1 m c1),(31,.int .i64 ((m:Nat):Int)),(32,.int .i64 ((k:Nat):Int))] a∧k≤m∧Below w.heap.size w v∧Blk v g7 24 #[.slice A j c]∧SetsAt w.heap.size v A c R∧(∀r∈R,SlMd r)∧Is R.length j∧j≤k)
  (fun a _=>m-(intOf (a.tmps.getD 32 undef)).toNat) ⟨0,0,[],none,0,hs,hd,ks zl,Nat.zero_le _,hB,hg7,SetsAt.nil _ _,(fun r hr=>by cases hr),rfl,Nat.le_refl _⟩ ?_
 clear hs hd zl hB hg7 hge7 u;rintro a v ⟨k,j,R,A,c,hs,hd,zl,hk,hB,hg7,hst,hmd,hj,hjk⟩;have hup:=bup hB;have hm:(intOf (a.tmps.getD 32 undef)).toNat=k:=by rw[sl zl 32];simp[intOf]
 rw[hm];clear hm;have HMD:=Is.hid hmd;clear hmd;by_cases hlt:k<m
 ·have e1:decide (k<m)=true:=decide_eq_true hlt;have ew:IntKind.i64.wrap ((k:Int)+1)=((k+1:Nat):Int):=by rw[IntWalk.i64_in _ (by omega)];omega
  obtain⟨r,hRk⟩:∃r,R1[k]?=some r:=⟨R1[k]'(by rw[HLM.out];exact hlt),List.getElem?_eq_getElem _⟩;obtain⟨b,o,eA,hb0,hc⟩:=hA1.cell hRk;obtain⟨hri,hrf⟩:=hin1 r (List.mem_of_getElem? hRk);have hka:=fitsB_k hrf;have hset:=c_set r.S r.A r.c v ((hA1.at_ r (List.mem_of_getElem? hRk)).after hB) hri.fm hri.le hri.cap (fun s hs=>⟨hka s hs,hri.p s hs⟩);unfold Nl.v at hc;obtain⟨nr,hnr⟩:∃n,Is r.S.length n:=is_self _;rw[hnr.out]at hc hset;rw[eA]at zl;have HA:=Is.hid eA;clear eA hRk hri hrf hka
  (repeat first|refine wp_seq ?_|refine wp_block ?_|refine wp_region_list ?_|(refine tx hs hd zl ?_;clear hs hd zl;intro a hs hd zl)|(refine tn hs hd zl ?_;clear hs hd zl;intro a hs hd zl)|refine ct zl ?_|refine cf zl ?_|refine wp_skip ?_)
  refine tc hset hs hd zl ?_;rintro _ v ⟨S,A',c',rfl,hSok,hSat,-,-,hb⟩;refine⟨_,rfl,?_⟩;clear hs hd zl;intro a hs hd zl;clear hset hc;replace hg7:=hg7.after hb;replace hst:=(Stab.sets 24 (by decide) _ _ _ _).after hst hb;replace hB:=bz_then hB hb;(try clear hup);have hup:=bup hB;clear hb;obtain⟨nS,hnS⟩:∃n,Is S.length n:=is_self _;rw[hnS.out]at zl;rw[← HA.out]at zl;replace zl:=kp [1,2,6,7,30,31,32,37] zl;by_cases hS0:nS=0
  ·subst hS0
   (repeat first|refine wp_seq ?_|refine wp_block ?_|refine wp_region_list ?_|(refine tx hs hd zl ?_;clear hs hd zl;intro a hs hd zl)|(refine tn hs hd zl ?_;clear hs hd zl;intro a hs hd zl)|refine ct zl ?_|refine cf zl ?_|refine wp_skip ?_)
   refine⟨⟨k+1,j,R,A,c,hs,hd,ks zl,hlt,hB,hg7,hst,HMD.out,hj,by omega⟩,?_⟩;rw[sl zl 32];simp[intOf];omega
  have e2:decide (0<nS)=true:=decide_eq_true (by omega);have e3:decide ((0:Int)<(nS:Int))=true:=decide_eq_true (by omega);have c7:v.cell? ⟨g7,0,none⟩=some (.slice A j c):=hg7.cell 0
  (repeat first|refine wp_seq ?_|refine wp_block ?_|refine wp_region_list ?_|(refine tx hs hd zl ?_;clear hs hd zl;intro a hs hd zl)|(refine tn hs hd zl ?_;clear hs hd zl;intro a hs hd zl)|refine ct zl ?_|refine cf zl ?_|refine wp_skip ?_)
  clear c7;refine tb (cs:=#[.slice A' nS c']) hs hd zl ?_;intro gs v hgs hgse hb;clear hs hd zl;intro a hs hd zl;replace hg7:=hg7.after hb;replace hst:=(Stab.sets 24 (by decide) _ _ _ _).after hst hb;replace hSat:=hSat.after hb;replace hB:=bz_then hB hb;(try clear hup);have hup:=bup hB;clear hb;have hgs:Blk v gs 26 #[(⟨A',S,c'⟩:Nl).v]:=by unfold Nl.v;rw[hnS.out];exact hgs
  replace zl:=kp [1,2,6,7,30,31,32,41,43] zl;refine tw (fun x v1=>∃A2 c2,x=.slice A2 (j+1) c2∧SetsAt w.heap.size v1 A2 c2 (R++[⟨A',S,c'⟩])∧Below w.heap.size v v1∧Blk v1 g7 24 #[.slice A j c]) hs hd zl (fun K Q hK=>op_app_set (.tmp 41) (.tmp 43) rfl hj.out (sl zl 41) (sl zl 43) hst hgs hSat (by rw[hj.out];omega) hB.size (fun A2 c2 v1 h1 h2 h3=>hK _ _ ⟨A2,c2,rfl,h1,h2,h3 _ (Stab.blk IsSl _ g7 _ (by decide)) hg7⟩)) ?_;clear hst hgs hSat hgse hg7;rintro _ v1 ⟨A2,c2,rfl,hst,hb2,hg7⟩;clear hs hd zl;intro a hs hd zl;replace hB:Below w.heap.size w v1:=hB.trans hb2;clear hb2 hup;have c7:v1.cell? ⟨g7,0,none⟩=some (.slice A j c):=hg7.cell 0;have f7:=hg7.free 0;refine ts hs hd zl ?_;clear hs hd zl;intro a hs hd zl;clear c7 f7;have hgb:=box_gb v1 g7 (.slice A2 (j+1) c2) hg7;replace hst:=(Stab.sets 24 (by decide) _ _ _ _).gb hst hg7 (fun v hv=>by
   obtain rfl:v=.slice A j c:=by simpa using hv
   exact⟨_,_,_,rfl⟩) hgb
  have hg7:Blk (v1.setCell ⟨g7,0,none⟩ (.slice A2 (j+1) c2)) g7 24 #[.slice A2 (j+1) c2]:=hg7.set_ 0 _;replace hB:Below w.heap.size w (v1.setCell ⟨g7,0,none⟩ (.slice A2 (j+1) c2)):=GB.below2 hB hgb HG7;clear hgb;generalize v1.setCell ⟨g7,0,none⟩ (.slice A2 (j+1) c2)=v2 at hst hg7 hB⊢
  (repeat first|refine wp_seq ?_|refine wp_block ?_|refine wp_region_list ?_|(refine tx hs hd zl ?_;clear hs hd zl;intro a hs hd zl)|(refine tn hs hd zl ?_;clear hs hd zl;intro a hs hd zl)|refine ct zl ?_|refine cf zl ?_|refine wp_skip ?_)
  refine⟨⟨k+1,j+1,_,A2,c2,hs,hd,ks zl,hlt,hB,hg7,hst,(fun r hr=>?_),Is.hid (by rw[List.length_append,hj.out];rfl),by omega⟩,?_⟩
  ·rcases List.mem_append.1 hr with hr|hr
   ·exact HMD.out r hr
   ·rw[List.mem_singleton.1 hr];exact⟨hSok,by show 0<S.length;rw[hnS.out];omega⟩
  ·rw[sl zl 32];simp[intOf];omega
 obtain rfl:m=k:=by omega
 have e1:decide (m<m)=false:=decide_eq_false (by omega);have c7:v.cell? ⟨g7,0,none⟩=some (.slice A j c):=hg7.cell 0;by_cases hj2:j<2
 ·have e2:decide (j<2)=true:=decide_eq_true hj2;have e2':decide ((j:Int)<2)=true:=decide_eq_true (by omega)
  (repeat first|refine wp_seq ?_|refine wp_block ?_|refine wp_region_list ?_|(refine tx hs hd zl ?_;clear hs hd zl;intro a hs hd zl)|(refine tn hs hd zl ?_;clear hs hd zl;intro a hs hd zl)|refine ct zl ?_|refine cf zl ?_|refine wp_skip ?_)
  refine wp_exit ?_;(repeat refine then_exit ?_);refine inBlock_exit ?_
  (repeat first|refine wp_seq ?_|refine wp_block ?_|refine wp_region_list ?_|(refine tx hs hd zl ?_;clear hs hd zl;intro a hs hd zl)|(refine tn hs hd zl ?_;clear hs hd zl;intro a hs hd zl)|refine ct zl ?_|refine cf zl ?_|refine wp_skip ?_)
  refine wp_ret ?_;(repeat first|refine then_ret ?_|refine inBlock_ret ?_);exact end_tmp rfl hd (sl zl 6) ⟨rfl,hB⟩
 have e2:decide (j<2)=false:=decide_eq_false hj2;have e2':decide ((j:Int)<2)=false:=decide_eq_false (by omega)
 (repeat first|refine wp_seq ?_|refine wp_block ?_|refine wp_region_list ?_|(refine tx hs hd zl ?_;clear hs hd zl;intro a hs hd zl)|(refine tn hs hd zl ?_;clear hs hd zl;intro a hs hd zl)|refine ct zl ?_|refine cf zl ?_|refine wp_skip ?_)
 refine wp_exit ?_;(repeat refine then_exit ?_);refine inBlock_exit ?_
 (repeat first|refine wp_seq ?_|refine wp_block ?_|refine wp_region_list ?_|(refine tx hs hd zl ?_;clear hs hd zl;intro a hs hd zl)|(refine tn hs hd zl ?_;clear hs hd zl;intro a hs hd zl)|refine ct zl ?_|refine cf zl ?_|refine wp_skip ?_)
 have hn8:R.length≤8:=by rw[hj.out];omega
 have hj8:j≤8:=by omega
 obtain⟨r00,hr00⟩:∃r,R[0]?=some r:=⟨R[0]'(by rw[hj.out];omega),List.getElem?_eq_getElem _⟩;have hsl:=hst.sls;obtain⟨bS,oS,rfl,lS,-⟩:=hsl.cell hr00;have hBw:=hB;replace hKt:=hKt.after hB;replace h0:=Nat.lt_of_lt_of_le h0 hB.size;have l7:=hg7.lt;have h2j:2≤j:=by omega
 clear hst hr00 r00 hB hup HG7 hj2 e2 e2' e1 hA1 hin1 HLM hlt hjk hm8 hmn hk;have hB:=bz_refl v;have hup:=bup hB;refine ta (cs:=#[.slice none 0 0]) hs hd zl ?_;intro g11 u hg11 hge11 hb;clear hs hd zl;intro a hs hd zl;replace hB:=bz_then hB hb;(try clear hup);have hup:=bup hB;clear hb
 (repeat first|refine wp_seq ?_|refine wp_block ?_|refine wp_region_list ?_|(refine tx hs hd zl ?_;clear hs hd zl;intro a hs hd zl)|(refine tn hs hd zl ?_;clear hs hd zl;intro a hs hd zl)|refine ct zl ?_|refine cf zl ?_|refine wp_skip ?_)
 refine ta (cs:=#[.slice none 0 0]) hs hd zl ?_;intro g12 u hg12 hge12 hb;clear hs hd zl;intro a hs hd zl;have HG12:=Nat.le_trans hB.size hge12;have h1112:g11<g12:=Nat.lt_of_lt_of_le hg11.lt hge12;replace hg11:=hg11.after hb;replace hB:=bz_then hB hb;(try clear hup);have hup:=bup hB;clear hb
 (repeat first|refine wp_seq ?_|refine wp_block ?_|refine wp_region_list ?_|(refine tx hs hd zl ?_;clear hs hd zl;intro a hs hd zl)|(refine tn hs hd zl ?_;clear hs hd zl;intro a hs hd zl)|refine ct zl ?_|refine cf zl ?_|refine wp_skip ?_)
 refine wp_loop (fun a x=>∃(k:Nat) (Hs:List Hd) (Ds:List Ic) (Ah:Option Addr) (ch:Nat) (Ac:Option Addr) (cc:Nat),SzIs a 175∧DfNil a∧LiveAll [(1,.int .i64 fr),(2,.int .i64 tu),(6,.bool false),(7,.pointer (some ⟨g7,0,none⟩)),(11,.pointer (some ⟨g11,0,none⟩)),(12,.pointer (some ⟨g12,0,none⟩)),(49,.slice (some ⟨bS,oS,none⟩) j c),(50,.int .i64 ((j:Nat):Int)),(51,.int .i64 ((k:Nat):Int))] a∧k≤j∧Below v.heap.size v x∧Is Hs.length k∧Is Ds.length k∧Blk x g11 28 #[.slice Ah k ch]∧Blk x g12 29 #[.slice Ac k cc]∧HdsAt v.heap.size x Ah ch Hs∧CmsAt v.heap.size x Ac cc Ds∧∀i H D,Hs[i]?=some H→Ds[i]?=some D→Lk R i H D)
  (fun a _=>j-(intOf (a.tmps.getD 51 undef)).toNat) ⟨0,[],[],none,0,none,0,hs,hd,ks zl,Nat.zero_le _,hB,rfl,rfl,hg11,hg12,HdsAt.nil _ _,CmsAt.nil _ _,fun i H D h=>by simp at h⟩ ?_
 clear hs hd zl hB hup hg11 hg12 u;rintro a x ⟨k,Hs,Ds,Ah,ch,Ac,cc,hs,hd,zl,hk,hB,hHk,hDk,hg11,hg12,hhds,hcms,hlk⟩;have hup:=bup hB;have hm:(intOf (a.tmps.getD 51 undef)).toNat=k:=by rw[sl zl 51];simp[intOf]
 rw[hm];clear hm;have HLK:=Is.hid hlk;clear hlk;by_cases hlt:k<j
 ·have e1:decide (k<j)=true:=decide_eq_true hlt;have ew:IntKind.i64.wrap ((k:Int)+1)=((k+1:Nat):Int):=by rw[IntWalk.i64_in _ (by omega)];omega
  have ew1:IntKind.i64.wrap (10+(k:Int))=10+(k:Int):=IntWalk.i64_in _ (by omega);have ew2:IntKind.i64.wrap (10*(k:Int))=10*(k:Int):=IntWalk.i64_in _ (by omega);have ew3:IntKind.i64.wrap (1000+10*(k:Int))=1000+10*(k:Int):=IntWalk.i64_in _ (by omega);have ew4:=u8_small (k:=k) (by omega);obtain⟨r,hRk⟩:∃r,R[k]?=some r:=⟨R[k]'(by rw[hj.out];exact hlt),List.getElem?_eq_getElem _⟩;obtain⟨b',o',eS,-,kS⟩:=hsl.cell hRk;obtain⟨rfl,rfl⟩:bS=b'∧oS=o':=by simpa using eS
  clear eS;unfold Nl.v at kS;obtain⟨nr,hnr⟩:∃n,Is r.S.length n:=is_self _;rw[hnr.out]at kS;have c7:v.cell? ⟨g7,0,none⟩=some (.slice (some ⟨bS,oS,none⟩) j c):=hg7.cell 0;have HRK:=Is.hid hRk;clear hRk
  (repeat first|refine wp_seq ?_|refine wp_block ?_|refine wp_region_list ?_|(refine tx hs hd zl ?_;clear hs hd zl;intro a hs hd zl)|(refine tn hs hd zl ?_;clear hs hd zl;intro a hs hd zl)|refine ct zl ?_|refine cf zl ?_|refine wp_skip ?_)
  change Code.wp _ _ _ _ _;refine then_cut (fun a x'=>x'=x∧SzIs a 175∧DfNil a∧∃(nx:Nl) (nn:Nat),(R[k+1]?=some nx∨nx=r∧R.length=k+1)∧nx∈R∧Is nx.S.length nn∧LiveAll [(1,.int .i64 fr),(2,.int .i64 tu),(6,.bool false),(7,.pointer (some ⟨g7,0,none⟩)),(11,.pointer (some ⟨g11,0,none⟩)),(12,.pointer (some ⟨g12,0,none⟩)),(13,.int .i64 ((k:Nat):Int)),(14,.slice r.A nr r.c),(15,.slice nx.A nn nx.c),(49,.slice (some ⟨bS,oS,none⟩) j c),(50,.int .i64 ((j:Nat):Int)),(51,.int .i64 ((k:Nat):Int))] a) ?_ ?_
  ·by_cases hk1:k+1<j
   ·have e2:decide ((k:Int)+1<(j:Int))=true:=decide_eq_true (by omega);have e2':decide (k+1<j)=true:=decide_eq_true hk1;rw[e2]at zl;obtain⟨nx,hNx⟩:∃r,R[k+1]?=some r:=⟨R[k+1]'(by rw[hj.out];exact hk1),List.getElem?_eq_getElem _⟩;obtain⟨b',o',eS,-,kN⟩:=hsl.cell hNx;obtain⟨rfl,rfl⟩:bS=b'∧oS=o':=by simpa using eS
    clear eS;unfold Nl.v at kN;obtain⟨nn,hnn⟩:∃n,Is nx.S.length n:=is_self _;rw[hnn.out]at kN;have HNX:=Is.hid hNx;clear hNx
    (repeat first|refine wp_seq ?_|refine wp_block ?_|refine wp_region_list ?_|(refine tx hs hd zl ?_;clear hs hd zl;intro a hs hd zl)|(refine tn hs hd zl ?_;clear hs hd zl;intro a hs hd zl)|refine ct zl ?_|refine cf zl ?_|refine wp_skip ?_)
    obtain⟨k1,hk1'⟩:∃m,k+1=m:=⟨_,rfl⟩;have e4:k1<j:=by omega
    rw[hk1']at kN;rw[show(k:Int)+1=(k1:Int)by omega]at zl;clear hk1'
    (repeat first|refine wp_seq ?_|refine wp_block ?_|refine wp_region_list ?_|(refine tx hs hd zl ?_;clear hs hd zl;intro a hs hd zl)|(refine tn hs hd zl ?_;clear hs hd zl;intro a hs hd zl)|refine ct zl ?_|refine cf zl ?_|refine wp_skip ?_)
    exact⟨rfl,hs,hd,nx,nn,.inl HNX.out,List.mem_of_getElem? HNX.out,hnn,ks zl⟩
   ·have e2:decide ((k:Int)+1<(j:Int))=false:=decide_eq_false (by omega);rw[e2]at zl
    (repeat first|refine wp_seq ?_|refine wp_block ?_|refine wp_region_list ?_|(refine tx hs hd zl ?_;clear hs hd zl;intro a hs hd zl)|(refine tn hs hd zl ?_;clear hs hd zl;intro a hs hd zl)|refine ct zl ?_|refine cf zl ?_|refine wp_skip ?_)
    exact⟨rfl,hs,hd,r,nr,.inr ⟨rfl,by rw[hj.out];omega⟩,List.mem_of_getElem? HRK.out,hnr,ks zl⟩
  clear hs hd zl;rintro a _ ⟨rfl,hs,hd,nx,nn,hnx,hnm,hnn,zl⟩;have hr:=HMD.out r (List.mem_of_getElem? HRK.out);have hnk:=HMD.out nx hnm;obtain⟨x0,hx0⟩:∃y,r.S[0]?=some y:=⟨r.S[0]'hr.n0,List.getElem?_eq_getElem _⟩
  (repeat first|refine wp_seq ?_|refine wp_block ?_|refine wp_region_list ?_|(refine tx hs hd zl ?_;clear hs hd zl;intro a hs hd zl)|(refine tn hs hd zl ?_;clear hs hd zl;intro a hs hd zl)|refine ct zl ?_|refine cf zl ?_|refine wp_skip ?_)
  refine tb (cs:=#[.int .u8 (k:Int)]) hs hd zl ?_;intro gb u hgb hgbe hb;clear hs hd zl;intro a hs hd zl;have hB0:=hB;replace hg11:=hg11.after hb;replace hg12:=hg12.after hb;replace hhds:=(Stab.hds 41 (by decide) _ _ _ _).after hhds hb;replace hcms:=(Stab.cms 37 (by decide) (by decide) _ _ _ _).after hcms hb;replace hB:=bz_then hB hb;(try clear hup);have hup:=bup hB;clear hb;replace zl:=kp [1,2,6,7,11,12,13,14,15,49,50,51,68,72,73,74,77] zl;have hhd:=c_headed ⟨#[99,104,97,105,110]⟩ (10+(k:Int)) (1000+10*(k:Int)) 0 r.S nx.S r.A nx.A (some ⟨gb,0,none⟩) r.c nx.c 1 [(k:Int)] x0 u ((hsl.at_ r (List.mem_of_getElem? HRK.out)).after hB) ((hsl.at_ nx hnm).after hB) hr.ok.good hnk.ok.good hr.ok.le hnk.ok.le hx0 (bs_u8s (l:=[(k:Int)]) hgb) (Bytes.cons (by unfold U8;omega) Bytes.nil) (by simp);rw[hnr.out,hnn.out,show([(k:Int)]:List Int).length=1 from rfl]at hhd;refine tc hhd hs hd zl ?_;rintro _ u ⟨H,rfl,hH,hHo,hb⟩;refine⟨_,rfl,?_⟩;clear hs hd zl;intro a hs hd zl;clear hhd hgb;replace hg11:=hg11.after hb;replace hg12:=hg12.after hb;replace hhds:=(Stab.hds 41 (by decide) _ _ _ _).after hhds hb;replace hcms:=(Stab.cms 37 (by decide) (by decide) _ _ _ _).after hcms hb;replace hB:=bz_then hB hb;(try clear hup);have hup:=bup hB;clear hb;have hgh:∀g,blkOf Ah=some g→g<u.heap.size:=fun g e=>by
   obtain⟨cur,hc,_⟩:=hhds.own.blkE e;exact hc.lt
  refine tas hs hd zl (cs:=H.cells) (Hd.one H) ?_;intro g16 u hg16 hge16 hb;clear hs hd zl;intro a hs hd zl;have hgh16:blkOf Ah≠some g16:=fun e=>by
   have:=hgh g16 e;omega
  clear hgh;replace hg11:=hg11.after hb;replace hg12:=hg12.after hb;replace hhds:=(Stab.hds 41 (by decide) _ _ _ _).after hhds hb;replace hcms:=(Stab.cms 37 (by decide) (by decide) _ _ _ _).after hcms hb;replace hHo:=hHo.after hb;replace hB:=bz_then hB hb;(try clear hup);have hup:=bup hB;clear hb;replace zl:=kp [1,2,6,7,11,12,14,16,49,50,51] zl;have hfull:=hH.full;have hnum:=hH.num (by omega) (by omega) (by decide) (by decide) (by have:=(hr.ok.good.get hx0).a;omega);have hch:H.ch=⟨#[99,104,97,105,110]⟩:=by obtain⟨bh,bp,hh,rfl,_⟩:=hH;rfl
  have hht:H.ht=10+(k:Int):=by obtain⟨bh,bp,hh,rfl,_⟩:=hH;rfl
  have hsec:H.sec=1000+10*(k:Int):=by obtain⟨bh,bp,hh,rfl,_⟩:=hH;rfl
  have HCH:=Is.hid hch;have HHT:=Is.hid hht;have HSE:=Is.hid hsec;clear hch hht hsec;change Code.wp _ _ _ _ _;have hN0':Below u.heap.size u u.drew:=(Below.refl _ _).drew;refine f5 [some (79,.slice Ah k ch),some (80,.agg H.cells),none,none,some (83,.slice Ac k cc),some (84,.agg H.cells),some (85,.slice r.A nr r.c),none,none,none,none,none] [2,3,7,8,9,10,11] (T22 (Th22 v g11 g12 g16 k Ah ch Ac cc Hs Ds H (Sgd H r.S))) (rs:=[(none,some 1),(none,some 0),(some 0,some 1),(some 1,some 2),(none,some 4),(none,some 2),(none,some 2),(some 2,some 3),(some 3,some 4),(some 4,some 5),(some 5,some 6),(some 6,none)]) hs hd zl ?_ (by kernel_rfl) ?_ ?_
  ·exact⟨⟨bz_then hB hN0',hg16.after hN0',hHo.after hN0'⟩,fun _=>hg11.after hN0',fun _=>hg12.after hN0',fun _=>(Stab.hds 41 (by decide) _ _ _ _).after hhds hN0',fun _=>(Stab.cms 37 (by decide) (by decide) _ _ _ _).after hcms hN0',fun e=>by omega,fun e=>by omega,fun e=>by omega⟩
  ·clear hg11 hg12 hhds hcms hHo hg16 hB hup hN0';refine⟨b5 (T22.put (by decide) (by decide) (by decide) (by decide) (by decide)) (h:=fun a x c hT hr zl hd K Q hK=>?_),b5 (T22.put (by decide) (by decide) (by decide) (by decide) (by decide)) (h:=fun a x c hT hr zl hd K Q hK=>?_),k5 (k:=0) fun a x hT hs zl hd K Q hK=>?_,k5 (k:=1) fun a x hT hs zl hd K Q hK=>?_,b5 (T22.put (by decide) (by decide) (by decide) (by decide) (by decide)) (h:=fun a x c hT hr zl hd K Q hK=>?_),b5 (T22.put (by decide) (by decide) (by decide) (by decide) (by decide)) (h:=fun a x c hT hr zl hd K Q hK=>?_),b5 (T22.put (by decide) (by decide) (by decide) (by decide) (by decide)) (h:=fun a x c hT hr zl hd K Q hK=>?_),k5 (k:=2) fun a x hT hs zl hd K Q hK=>?_,k5 (k:=3) fun a x hT hs zl hd K Q hK=>?_,k5 (k:=4) fun a x hT hs zl hd K Q hK=>?_,k5 (k:=5) fun a x hT hs zl hd K Q hK=>?_,k5 (k:=6) fun a x hT hs zl hd K Q hK=>?_,trivial⟩
   ·have c11:=(hT.b11 (by have:=hr 1 rfl;omega)).cell 0;have q:=gA zl;simp only[GetAll]at q;go_simp;exact hK
   ·exact op_load_row 37 (.tmp 16) rfl g16 (sl zl 16) _ H.cells _ hT.cm.b16 rfl rfl (by kernel_rfl) hK
   ·have h1:T22 (Th22 v g11 g12 g16 k Ah ch Ac cc Hs Ds H (Sgd H r.S)) 1 (a.put (some 81) (.slice (some ⟨x.heap.size,0,none⟩) 1 1)) (x.alloc (.cells H.cells 37)):=T22.p81 hs (Th22.k1 hT ((Below.refl _ _).alloc (Nat.le_refl _) _) (Blk.new x _ _)) (by decide);have h2:=hK _ _ h1;clear h1 hT hK;simp[deps,Region.binds,sdG,sdN,shG]at hd;unfold Hd.cells at hd h2;go_simp;exact h2
   ·obtain⟨g,e81,hg⟩:=hT.s1 rfl;exact op_app_hd (.tmp 79) (.tmp 81) rfl hHk.out (sdep_get hd 0 (by kernel_rfl) rfl) e81 (hT.hds (by decide)) hg hT.cm.ok (by rw[hHk.out];omega) hT.cm.bel.size fun A' c' w' h1 h2 h3 h4=>hK _ _ (T22.p82 hs (Th22.k2 hT h1 h2 h3 (gb_blk h4 hT.cm.b16 (fun e=>hgh16 e.symm))) (by decide))
   ·have c12:=(hT.b12 (by have:=hr 4 rfl;omega)).cell 0;have q:=gA zl;simp only[GetAll]at q;go_simp;exact hK
   ·exact op_load_row 37 (.tmp 16) rfl g16 (sl zl 16) _ H.cells _ hT.cm.b16 rfl rfl (by kernel_rfl) hK
   ·have q:=gA zl;simp only[GetAll]at q;go_simp;exact hK
   ·have hcall:=sgl_call (c:=r.c) hnr.out hnum hT.cm.ok hfull ((hsl.at_ r (List.mem_of_getElem? HRK.out)).after hT.cm.bel) hr.ok hr.n0 (by have:=HSE.out;omega) (by rw[HCH.out];decide) (hKt.after hT.cm.bel) (Nat.lt_of_lt_of_le h0 hT.cm.bel.size);simp[deps,Region.binds,sdG,sdN,shG]at hd;go_simp;refine hcall.mono ?_;rintro e w' ⟨D,rfl,hDc,hDs,hb⟩;exact hK _ _ (T22.p86 hs (Th22.k3 hT hb hDs hDc) (by decide))
   ·obtain⟨D,hD,hc,e86,-⟩:=hT.s3 (by decide);have q86:=gd (e86 rfl);have hb:Below x.heap.size x (x.alloc (.cells D.cells 41)):=(Below.refl _ _).alloc (Nat.le_refl _) _;have h1:T22 (Th22 v g11 g12 g16 k Ah ch Ac cc Hs Ds H (Sgd H r.S)) 4 (a.put (some 87) (.slice (some ⟨x.heap.size,0,none⟩) 1 1)) (x.alloc (.cells D.cells 41)):=T22.p87 hs (Th22.k4 hT hb hD ((Stab.cm 37 (by decide) D).after (hc (by decide)) hb) (Blk.new x _ _)) (by decide);have h2:=hK _ _ h1;clear h1 hT hK;unfold Ic.cells at q86 h2;go_simp;exact h2
   ·obtain⟨D,hD,hc,-,e87,-⟩:=hT.s3 (by decide);obtain⟨g,e87,hg⟩:=e87 rfl;exact op_app_cm (.tmp 83) (.tmp 87) rfl hDk.out (sdep_get hd 4 (by kernel_rfl) rfl) e87 (hT.cms (by decide)) hg (hc (by decide)) (by rw[hDk.out];omega) hT.cm.bel.size fun A' c' w' h1 h2 h3=>hK _ _ (T22.p88 hs (Th22.k5 hT hD h1 h2 h3) (by decide))
   ·obtain⟨A',c',-,e82,-⟩:=hT.s2 (by decide);have e82:=e82 (by decide);have q82:=gd e82;have c11:=(hT.b11 (by decide)).cell 0;have f11:=(hT.b11 (by decide)).free 0;have q:=gA zl;simp only[GetAll]at q;have hk6:=Th22.k6 hT (by omega);rw[e82]at hk6;have h2:=hK undef _ (T22.pn (by rw[e82];exact hk6));clear hk6 hT hK;go_simp;exact h2
   ·obtain⟨D,-,-,-,-,q5⟩:=hT.s3 (by decide);obtain⟨B',d',-,e88,-⟩:=q5 (by decide);have e88:=e88 (by decide);have q88:=gd e88;have c12:=(hT.b12 (by decide)).cell 0;have f12:=(hT.b12 (by decide)).free 0;have q:=gA zl;simp only[GetAll]at q;have hk7:=Th22.k7 hT (by omega);rw[e88]at hk7;have h2:=hK undef _ (T22.pn (by rw[e88];exact hk7));clear hk7 hT hK;go_simp;exact h2
  clear hs hd zl hB hup hg11 hg12 hhds hcms hHo hg16 hN0' hgh16;intro a x1 hT hs hd zl _;obtain⟨hB,A',c',B',d',D,hD,hg11,hg12,hhds,hcms⟩:=hT.fin;clear hT;have hup:=bup hB;have hlk2:∀i H' D',(Hs++[H])[i]?=some H'→(Ds++[D])[i]?=some D'→Lk R i H' D':=by
   intro i H' D' h1 h2;rcases Nat.lt_or_ge i k with hi|hi
   ·rw[List.getElem?_append_left (by rw[hHk.out];exact hi)]at h1;rw[List.getElem?_append_left (by rw[hDk.out];exact hi)]at h2;exact HLK.out i H' D' h1 h2
   ·have hik:i=k:=by
     have:=(List.getElem?_eq_some_iff.1 h1).1;rw[List.length_append,hHk.out]at this;simp at this;omega
    subst hik;rw[List.getElem?_append_right (by rw[hHk.out];exact Nat.le_refl _),hHk.out]at h1;rw[List.getElem?_append_right (by rw[hDk.out];exact Nat.le_refl _),hDk.out]at h2;simp at h1 h2;subst h1 h2;refine⟨⟨r,nx,x0,HRK.out,hnx,hx0,hH⟩,fun r' hr'=>?_,hD.ht.trans HHT.out,hD.b,hD.bp⟩;rw[HRK.out]at hr';injection hr' with e;subst e;refine⟨hD.fu,?_,hD.l32⟩;have:=hD.pre;rw[HSE.out]at this;exact this
  (repeat first|refine wp_seq ?_|refine wp_block ?_|refine wp_region_list ?_|(refine tx hs hd zl ?_;clear hs hd zl;intro a hs hd zl)|(refine tn hs hd zl ?_;clear hs hd zl;intro a hs hd zl)|refine ct zl ?_|refine cf zl ?_|refine wp_skip ?_)
  refine⟨⟨k+1,Hs++[H],Ds++[D],A',c',B',d',hs,hd,ks zl,hlt,hB,Is.hid (by rw[List.length_append,hHk.out];rfl),Is.hid (by rw[List.length_append,hDk.out];rfl),hg11,hg12,hhds,hcms,hlk2⟩,?_⟩;rw[sl zl 51];simp[intOf];omega
 obtain rfl:j=k:=by omega
 have e1:decide (j<j)=false:=decide_eq_false (by omega)
 (repeat first|refine wp_seq ?_|refine wp_block ?_|refine wp_region_list ?_|(refine tx hs hd zl ?_;clear hs hd zl;intro a hs hd zl)|(refine tn hs hd zl ?_;clear hs hd zl;intro a hs hd zl)|refine ct zl ?_|refine cf zl ?_|refine wp_skip ?_)
 refine wp_exit ?_;(repeat refine then_exit ?_);refine inBlock_exit ?_;have hA:ChAt R Hs Ds g11 g12 g7 x:=⟨⟨Ah,ch,by rw[hHk.out];exact hg11,hhds.own.rows⟩,⟨Ac,cc,by rw[hDk.out];exact hg12,hcms.own.rows⟩,⟨_,c,by rw[hj.out];exact hg7.after hB,hsl.after hB⟩,hhds.ok,fun D hD=>(hcms.ok D hD).1,hKt.after hB,Nat.lt_of_lt_of_le h0 hB.size⟩;have hB1:=bz_then hBw hB;have hlen:Hs.length=R.length∧Ds.length=R.length:=⟨by rw[hHk.out,hj.out],by rw[hDk.out,hj.out]⟩;have HLN:=Is.hid hlen;have hsx:=hsl.after hB;have hg7x:=hg7.after hB;have hat:∀i,i<j→∃H D r,Hs[i]?=some H∧Ds[i]?=some D∧R[i]?=some r∧Lk R i H D:=fun i hi=>by
  have h1:=List.getElem?_eq_getElem (show i<Hs.length by rw[hHk.out];exact hi);have h2:=List.getElem?_eq_getElem (show i<Ds.length by rw[hDk.out];exact hi);have h3:=List.getElem?_eq_getElem (show i<R.length by rw[hj.out];exact hi);exact⟨_,_,_,h1,h2,h3,HLK.out i _ _ h1 h2⟩
 have hMD:∀r∈R,SetOk r.S∧0<r.S.length:=fun r hr=>⟨(HMD.out r hr).ok,(HMD.out r hr).n0⟩
 have HAT:=Is.hid hat;have HOK:=Is.hid hMD;have c7:x.cell? ⟨g7,0,none⟩=some (.slice (some ⟨bS,oS,none⟩) j c):=hg7x.cell 0;have l7x:=hg7x.lt;obtain⟨n1,hn1⟩:∃n,j=n+1:=⟨j-1,by omega⟩;have ej:IntKind.i64.wrap ((j:Int)-1)=(n1:Int):=by rw[IntWalk.i64_in _ (by omega)];omega
 have HN1:=Is.hid hn1;have hn1':0<n1∧n1≤7:=by omega
 clear hlen hat hMD hn1 hB hup hg11 hg12 hhds hcms hHk hDk HLK HMD hBw hKt h0 hsl hg7 l7 lS HG12 h1112 hge11 hge12 e1 hlt hk;have hB:=bz_refl x;have hup:=bup hB
 (repeat first|refine wp_seq ?_|refine wp_block ?_|refine wp_region_list ?_|(refine tx hs hd zl ?_;clear hs hd zl;intro a hs hd zl)|(refine tn hs hd zl ?_;clear hs hd zl;intro a hs hd zl)|refine ct zl ?_|refine cf zl ?_|refine wp_skip ?_)
 refine wp_loop (fun a y=>∃(i:Nat),SzIs a 175∧DfNil a∧LiveAll [(1,.int .i64 fr),(2,.int .i64 tu),(6,.bool false),(7,.pointer (some ⟨g7,0,none⟩)),(17,.func (.func 9) #[] #[.pointer (some ⟨g11,0,none⟩),.pointer (some ⟨g12,0,none⟩),.pointer (some ⟨g7,0,none⟩)]),(93,.int .i64 ((n1:Nat):Int)),(94,.int .i64 ((i:Nat):Int))] a∧i≤n1∧Below x.heap.size x y)
  (fun a _=>n1-(intOf (a.tmps.getD 94 undef)).toNat) ⟨0,hs,hd,ks zl,Nat.zero_le _,hB⟩ ?_
 clear hs hd zl hB hup;rintro a y ⟨i,hs,hd,zl,hi,hB⟩;have hup:=bup hB;have hm:(intOf (a.tmps.getD 94 undef)).toNat=i:=by rw[sl zl 94];simp[intOf]
 rw[hm];clear hm;by_cases hlt:i<n1
 ·have e1:decide (i<n1)=true:=decide_eq_true hlt;have ew:IntKind.i64.wrap ((i:Int)+1)=((i+1:Nat):Int):=by rw[IntWalk.i64_in _ (by omega)];omega
  obtain⟨i1,hi1⟩:∃m,i+1=m:=⟨_,rfl⟩;obtain⟨H0,D0,r0,hH0,hD0,hr0,hl0⟩:=HAT.out i (by have:=HN1.out;omega);obtain⟨H1,D1,r1,hH1,hD1,hr1,hl1⟩:=HAT.out i1 (by have:=HN1.out;omega);have hcall:=c_stp1 R Hs Ds g11 g12 g7 i i1 H0 H1 D0 D1 r0 r1 y (hA.after hB) HOK.out hn8 HLN.out.1 HLN.out.2 hH0 hH1 hD0 hD1 hr0 hr1 hl0 hl1;have hfu:=hl1.fu r1 hr1;have hro:=HOK.out r1 (List.mem_of_getElem? hr1);clear hH0 hH1 hD0 hD1 hr0 hr1 hl0 hl1;have HI1:=Is.hid hi1;clear hi1
  (repeat first|refine wp_seq ?_|refine wp_block ?_|refine wp_region_list ?_|(refine tx hs hd zl ?_;clear hs hd zl;intro a hs hd zl)|(refine tn hs hd zl ?_;clear hs hd zl;intro a hs hd zl)|refine ct zl ?_|refine cf zl ?_|refine wp_skip ?_)
  rw[show(i:Int)+1=(i1:Int)by have:=HI1.out;omega]at zl;refine tc hcall hs hd zl ?_;rintro _ y ⟨rr,VX,VY,CT,B,q,rfl,-,hVY,hCT,hout,hb⟩;refine⟨_,rfl,?_⟩;clear hs hd zl;intro a hs hd zl;clear hcall;rw[show(10+(i1:Int))=(10+(i:Int))+1 by have:=HI1.out;omega]at hout;obtain rfl:rr=0:=next_ok (X:=r0.S) hfu.1 hCT hro.1 hro.2 hVY hout;clear hout hfu hro;replace hB:=bz_then hB hb;(try clear hup);have hup:=bup hB;clear hb
  (repeat first|refine wp_seq ?_|refine wp_block ?_|refine wp_region_list ?_|(refine tx hs hd zl ?_;clear hs hd zl;intro a hs hd zl)|(refine tn hs hd zl ?_;clear hs hd zl;intro a hs hd zl)|refine ct zl ?_|refine cf zl ?_|refine wp_skip ?_)
  refine⟨⟨i+1,hs,hd,ks zl,hlt,hB⟩,?_⟩;rw[sl zl 94];simp[intOf];omega
 obtain rfl:n1=i:=by omega
 have e1:decide (n1<n1)=false:=decide_eq_false (by omega)
 (repeat first|refine wp_seq ?_|refine wp_block ?_|refine wp_region_list ?_|(refine tx hs hd zl ?_;clear hs hd zl;intro a hs hd zl)|(refine tn hs hd zl ?_;clear hs hd zl;intro a hs hd zl)|refine ct zl ?_|refine cf zl ?_|refine wp_skip ?_)
 refine wp_exit ?_;(repeat refine then_exit ?_);refine inBlock_exit ?_;clear e1 hi hlt
 (repeat first|refine wp_seq ?_|refine wp_block ?_|refine wp_region_list ?_|(refine tx hs hd zl ?_;clear hs hd zl;intro a hs hd zl)|(refine tn hs hd zl ?_;clear hs hd zl;intro a hs hd zl)|refine ct zl ?_|refine cf zl ?_|refine wp_skip ?_)
 refine tc (c_below fr n1 y hfr ⟨by omega,by omega⟩) hs hd zl ?_;rintro _ _ ⟨rfl,rfl⟩;refine⟨_,rfl,?_⟩;clear hs hd zl;intro a hs hd zl;have hbf:=bel_range fr n1 (by omega);obtain⟨f,hf⟩:∃f:Nat,bel fr n1=(f:Int):=⟨(bel fr n1).toNat,by omega⟩;rw[hf]at zl hbf;clear hf;obtain⟨d,hdd⟩:∃d:Nat,(n1:Int)-(f:Int)=(d:Int):=⟨n1-f,by omega⟩;have ef:IntKind.i64.wrap ((f:Int)+1)=((f:Int)+1):=IntWalk.i64_in _ (by omega);have ed:IntKind.i64.wrap ((n1:Int)-(f:Int))=(d:Int):=by rw[IntWalk.i64_in _ (by omega)];exact hdd
 have HDD:=Is.hid hdd;have hd0:0<d:=by omega
 clear hdd
 (repeat first|refine wp_seq ?_|refine wp_block ?_|refine wp_region_list ?_|(refine tx hs hd zl ?_;clear hs hd zl;intro a hs hd zl)|(refine tn hs hd zl ?_;clear hs hd zl;intro a hs hd zl)|refine ct zl ?_|refine cf zl ?_|refine wp_skip ?_)
 refine tc (c_below tu d y hto ⟨by omega,by have:=HDD.out;omega⟩) hs hd zl ?_;rintro _ _ ⟨rfl,rfl⟩;refine⟨_,rfl,?_⟩;clear hs hd zl;intro a hs hd zl;have hbt:=bel_range tu d (by omega);obtain⟨b0,hb0⟩:∃f:Nat,bel tu d=(f:Int):=⟨(bel tu d).toNat,by omega⟩;rw[hb0]at zl hbt;clear hb0;obtain⟨t,ht⟩:∃t:Nat,t=f+1+b0:=⟨_,rfl⟩;have et:IntKind.i64.wrap ((f:Int)+1+(b0:Int))=(t:Int):=by rw[IntWalk.i64_in _ (by have:=HDD.out;omega)];omega
 have hft:f<t:=by omega
 have htj:t<j:=by have:=HDD.out;have:=HN1.out;omega
 have hfj:f<j:=by omega
 have HT:=Is.hid ht;clear ht
 (repeat first|refine wp_seq ?_|refine wp_block ?_|refine wp_region_list ?_|(refine tx hs hd zl ?_;clear hs hd zl;intro a hs hd zl)|(refine tn hs hd zl ?_;clear hs hd zl;intro a hs hd zl)|refine ct zl ?_|refine cf zl ?_|refine wp_skip ?_)
 have hcell:∀i r,R[i]?=some r→x.cell? ⟨bS,oS+i,none⟩=some (.slice r.A r.S.length r.c):=fun i r hr=>by
  obtain⟨b',o',eS,-,kS⟩:=hsx.cell hr;obtain⟨rfl,rfl⟩:bS=b'∧oS=o':=by simpa using eS
  exact kS
 obtain⟨Hf,Df,rf,hHf,hDf,hrf,hlf⟩:=HAT.out f hfj;obtain⟨Ht,Dt,rt,hHt,hDt,hrt,hlt⟩:=HAT.out t htj;have kf:=hcell f rf hrf;have kt:=hcell t rt hrt;obtain⟨hfo,hf0⟩:=HOK.out rf (List.mem_of_getElem? hrf);obtain⟨hto',ht0⟩:=HOK.out rt (List.mem_of_getElem? hrt);have hsf:=hsx.at_ rf (List.mem_of_getElem? hrf);have hst:=hsx.at_ rt (List.mem_of_getElem? hrt);have hft':=hlf.fu rf hrf;have htt':=hlt.fu rt hrt;have hstp1:∀y,Below x.heap.size x y→_:=fun y hy=>c_stp1 R Hs Ds g11 g12 g7 f t Hf Ht Df Dt rf rt y (hA.after hy) HOK.out hn8 HLN.out.1 HLN.out.2 hHf hHt hDf hDt hrf hrt hlf hlt
 have hstp2:∀y,Below x.heap.size x y→_:=fun y hy=>c_stp1 R Hs Ds g11 g12 g7 t f Ht Hf Dt Df rt rf y (hA.after hy) HOK.out hn8 HLN.out.1 HLN.out.2 hHt hHf hDt hDf hrt hrf hlt hlf
 clear hcell hHf hDf hrf hlf hHt hDt hrt hlt hA;have hcl:∀y,Below x.heap.size x y→_:=fun y hy=>c_cla rf.S rt.S rf.A rt.A rf.c rt.c y (hsf.after hy) (hst.after hy) (by have:=hfo.le;omega) (by have:=hto'.le;omega)
 have hto2:∀y,Below x.heap.size x y→_:=fun y hy=>c_total rf.S rf.A rf.c y (hsf.after hy) hfo.good (by have:=hfo.le;omega)
 obtain⟨nf,hnf⟩:∃n,Is rf.S.length n:=is_self _;obtain⟨nt,hnt⟩:∃n,Is rt.S.length n:=is_self _;rw[hnf.out]at kf;rw[hnt.out]at kt;rw[hnf.out,hnt.out]at hcl;rw[hnf.out]at hto2;have lSx:bS<x.heap.size:=World.block_lt_of_cell? x ⟨bS,_,none⟩ kf;replace zl:=kp [1,2,6,7,17] zl
 (try change Code.wp _ _ _ _ _);refine fx [(119,_),(120,_),(121,_),(122,_),(123,_),(124,_),(125,_),(126,_)] 8 hs hd zl ?_;clear hs hd zl;intro a u hb hs hd zl;replace hB:=bz_then hB hb;(try clear hup);have hup:=bup hB;clear hb
 refine tc (hcl u hB) hs hd zl ?_;rintro _ u ⟨rfl,hb⟩;refine⟨_,rfl,?_⟩;clear hs hd zl;intro a hs hd zl;clear hcl;replace hB:=bz_then hB hb;(try clear hup);have hup:=bup hB;clear hb;replace zl:=kp [1,2,6,7,17,127] zl;obtain⟨q,hq⟩:∃q,claB rf.S rt.S=q:=⟨_,rfl⟩;rw[hq]at zl;have HQ:=Is.hid hq;clear hq
 cases q with
 |true=>
  (repeat first|refine wp_seq ?_|refine wp_block ?_|refine wp_region_list ?_|(refine tx hs hd zl ?_;clear hs hd zl;intro a hs hd zl)|(refine tn hs hd zl ?_;clear hs hd zl;intro a hs hd zl)|refine ct zl ?_|refine cf zl ?_|refine wp_skip ?_)
  refine wp_ret ?_;(repeat first|refine then_ret ?_|refine inBlock_ret ?_);exact end_tmp rfl hd (sl zl 6) ⟨rfl,bz_then hB1 hB⟩
 |false=>
 have hnc:=claB_no HQ.out;clear HQ
 (repeat first|refine wp_seq ?_|refine wp_block ?_|refine wp_region_list ?_|(refine tx hs hd zl ?_;clear hs hd zl;intro a hs hd zl)|(refine tn hs hd zl ?_;clear hs hd zl;intro a hs hd zl)|refine ct zl ?_|refine cf zl ?_|refine wp_skip ?_)
 have hsle:=shP_le rt.S rf.S hfo.good;have hfle:=hfo.le;have htle:=hto'.le;rw[hnf.out]at hfle;have hpb:∀k,0≤shP rt.S (rf.S.take k)∧shP rt.S (rf.S.take k)≤20000000:=fun k=>by
  have h1:=shP_le rt.S (rf.S.take k) fun u hu=>hfo.good u (List.mem_of_mem_take hu)
  have h2:(rf.S.take k).length≤20:=by rw[List.length_take,hnf.out];omega
  omega
 have HPB:=Is.hid hpb;clear hpb hsle;refine wp_loop (fun a y=>∃(i:Nat) (p:Int),SzIs a 175∧DfNil a∧LiveAll [(1,.int .i64 ((f:Nat):Int)),(2,.int .i64 ((t:Nat):Int)),(6,.bool false),(7,.pointer (some ⟨g7,0,none⟩)),(17,.func (.func 9) #[] #[.pointer (some ⟨g11,0,none⟩),.pointer (some ⟨g12,0,none⟩),.pointer (some ⟨g7,0,none⟩)]),(19,.int .i64 p),(131,.slice rf.A nf rf.c),(132,.int .i64 ((nf:Nat):Int)),(133,.int .i64 ((i:Nat):Int))] a∧i≤nf∧Below x.heap.size x y∧Is p (shP rt.S (rf.S.take i)))
  (fun a _=>nf-(intOf (a.tmps.getD 133 undef)).toNat) ⟨0,0,hs,hd,ks zl,Nat.zero_le _,hB,rfl⟩ ?_
 clear hs hd zl hB hup;rintro a y ⟨i,p,hs,hd,zl,hi,hB,hp⟩;have hup:=bup hB;have hm:(intOf (a.tmps.getD 133 undef)).toNat=i:=by rw[sl zl 133];simp[intOf]
 rw[hm];clear hm;by_cases hlt:i<nf
 ·have e1:decide (i<nf)=true:=decide_eq_true hlt;have ew:IntKind.i64.wrap ((i:Int)+1)=((i+1:Nat):Int):=by rw[IntWalk.i64_in _ (by omega)];omega
  obtain⟨s,hSi⟩:∃s,rf.S[i]?=some s:=⟨rf.S[i]'(by rw[hnf.out];exact hlt),List.getElem?_eq_getElem _⟩;obtain⟨b,o,eA,hb0,hcs⟩:=(hsf.after hB).at_ (by rw[hnf.out];omega);have hck:=hcs i s hSi;clear hcs;rw[eA]at zl;have HA:=Is.hid eA;have hsn:=shP_snoc rt.S rf.S i s hSi;have hsp:=(hfo.good.get hSi).p;clear eA hSi
  (repeat first|refine wp_seq ?_|refine wp_block ?_|refine wp_region_list ?_|(refine tx hs hd zl ?_;clear hs hd zl;intro a hs hd zl)|(refine tn hs hd zl ?_;clear hs hd zl;intro a hs hd zl)|refine ct zl ?_|refine cf zl ?_|refine wp_skip ?_)
  refine tk hs hd zl (fun K Q hK=>op_load_cells 48 (.tmp 135) rfl b _ (sl zl 135) s.cells _ hck rfl rfl (by kernel_rfl) hK) ?_;clear hs hd zl;intro a hs hd zl;clear hck hb0;refine tas hs hd zl (cs:=s.cells.toArray) (seat_one s) ?_;intro g21 u hg21 hge21 hb;clear hs hd zl;intro a hs hd zl;replace hB:=bz_then hB hb;(try clear hup);have hup:=bup hB;clear hb
  (repeat first|refine wp_seq ?_|refine wp_block ?_|refine wp_region_list ?_|(refine tx hs hd zl ?_;clear hs hd zl;intro a hs hd zl)|(refine tn hs hd zl ?_;clear hs hd zl;intro a hs hd zl)|refine ct zl ?_|refine cf zl ?_|refine wp_skip ?_)
  have hco:=c_conG 15 ⟨g21,0,none⟩ (adB s) rt.S rt.A rt.c u (hst.after hB) (by omega) (ent Tryz.func15 (by kernel_rfl) rfl) fun y _ v hv=>c_ch2 y s g21 v (hg21.after hv)
  rw[hnt.out]at hco;change Calls _ _ _ _ (fun e w'=>e=.returned (.bool (hasA rt.S s))∧_)at hco;obtain⟨q,hq⟩:∃q,hasA rt.S s=q:=⟨_,rfl⟩;rw[hq]at hco hsn;refine tc hco hs hd zl ?_;rintro _ u1 ⟨rfl,hb⟩;refine⟨_,rfl,?_⟩;clear hs hd zl;intro a hs hd zl;clear hco;replace hg21:=hg21.after hb;replace hB:=bz_then hB hb;(try clear hup);have hup:=bup hB;clear hb;rw[← HA.out]at zl;replace zl:=kp [1,2,6,7,17,19,21,131,132,133,142] zl;have HSN:=Is.hid hsn;clear hsn hq;have c2:u1.cell? ⟨g21,2,none⟩=some (.int .i64 s.p):=hg21.cell 2;have hp0:=HPB.out i;rw[← hp.out]at hp0;have ep:IntKind.i64.wrap (p+s.p)=p+s.p:=IntWalk.i64_in _ (by omega);change Code.wp _ _ _ _ _
  cases q with
  |true=>
   (repeat first|refine wp_seq ?_|refine wp_block ?_|refine wp_region_list ?_|(refine tx hs hd zl ?_;clear hs hd zl;intro a hs hd zl)|(refine tn hs hd zl ?_;clear hs hd zl;intro a hs hd zl)|refine ct zl ?_|refine cf zl ?_|refine wp_skip ?_)
   refine⟨⟨i+1,p+s.p,hs,hd,ks zl,hlt,hB,Is.hid (by have:=HSN.out;rw[if_pos rfl,← hp.out]at this;exact this.symm)⟩,?_⟩;rw[sl zl 133];simp[intOf];omega
  |false=>
   (repeat first|refine wp_seq ?_|refine wp_block ?_|refine wp_region_list ?_|(refine tx hs hd zl ?_;clear hs hd zl;intro a hs hd zl)|(refine tn hs hd zl ?_;clear hs hd zl;intro a hs hd zl)|refine ct zl ?_|refine cf zl ?_|refine wp_skip ?_)
   refine⟨⟨i+1,p,hs,hd,ks zl,hlt,hB,Is.hid (by have:=HSN.out;rw[if_neg (by decide),← hp.out,Int.add_zero]at this;exact this.symm)⟩,?_⟩;rw[sl zl 133];simp[intOf];omega
 obtain rfl:nf=i:=by omega
 have e1:decide (nf<nf)=false:=decide_eq_false (by omega);rw[show rf.S.take nf=rf.S by rw[← hnf.out,List.take_length]]at hp
 (repeat first|refine wp_seq ?_|refine wp_block ?_|refine wp_region_list ?_|(refine tx hs hd zl ?_;clear hs hd zl;intro a hs hd zl)|(refine tn hs hd zl ?_;clear hs hd zl;intro a hs hd zl)|refine ct zl ?_|refine cf zl ?_|refine wp_skip ?_)
 refine wp_exit ?_;(repeat refine then_exit ?_);refine inBlock_exit ?_;clear e1 hlt hi HPB;replace zl:=kp [1,2,6,7,17,19] zl;obtain⟨T,hT⟩:∃T,Is (total rf.S) T:=is_self _;have hTb:=total_le rf.S hfo.good;rw[hnf.out,hT.out]at hTb;have eT:Int.tdiv T 3=T / 3:=Int.tdiv_eq_ediv_of_nonneg hTb.1;have eT2:IntKind.i64.wrap (T / 3)=T / 3:=IntWalk.i64_in _ (by omega);rw[hT.out]at hto2;change Code.wp _ _ _ _ _;refine wp_seq (wp_region_list ?_);refine tx hs hd zl ?_;clear hs hd zl;intro a hs hd zl;change Code.wp _ _ _ _ _;refine wp_seq ?_;refine wp_seq ?_;refine then_cut (fun a u=>∃bq:Bool,(bq=true↔f+1<t∧p≤T / 3)∧Below x.heap.size x u∧SzIs a 175∧DfNil a∧LiveAll [(1,.int .i64 ((f:Nat):Int)),(2,.int .i64 ((t:Nat):Int)),(6,.bool false),(17,.func (.func 9) #[] #[.pointer (some ⟨g11,0,none⟩),.pointer (some ⟨g12,0,none⟩),.pointer (some ⟨g7,0,none⟩)]),(22,.int .i64 0),(161,.bool bq)] a) ?_ ?_
 ·by_cases hfar:f+1<t
  ·have e2:decide ((f:Int)+1<(t:Int))=true:=decide_eq_true (by omega)
   (repeat first|refine wp_seq ?_|refine wp_block ?_|refine wp_region_list ?_|(refine tx hs hd zl ?_;clear hs hd zl;intro a hs hd zl)|(refine tn hs hd zl ?_;clear hs hd zl;intro a hs hd zl)|refine ct zl ?_|refine cf zl ?_|refine wp_skip ?_)
   refine tc (hto2 y hB) hs hd zl ?_;rintro _ u ⟨rfl,hb⟩;refine⟨_,rfl,?_⟩;clear hs hd zl;intro a hs hd zl;replace hB:=bz_then hB hb;(try clear hup);have hup:=bup hB;clear hb;by_cases hpt:p≤T / 3
   ·have e3:decide (p≤T / 3)=true:=decide_eq_true hpt
    (repeat first|refine wp_seq ?_|refine wp_block ?_|refine wp_region_list ?_|(refine tx hs hd zl ?_;clear hs hd zl;intro a hs hd zl)|(refine tn hs hd zl ?_;clear hs hd zl;intro a hs hd zl)|refine ct zl ?_|refine cf zl ?_|refine wp_skip ?_)
    exact⟨true,⟨fun _=>⟨hfar,hpt⟩,fun _=>rfl⟩,hB,hs,hd,ks zl⟩
   ·have e3:decide (p≤T / 3)=false:=decide_eq_false hpt
    (repeat first|refine wp_seq ?_|refine wp_block ?_|refine wp_region_list ?_|(refine tx hs hd zl ?_;clear hs hd zl;intro a hs hd zl)|(refine tn hs hd zl ?_;clear hs hd zl;intro a hs hd zl)|refine ct zl ?_|refine cf zl ?_|refine wp_skip ?_)
    exact⟨false,⟨(fun e=>by cases e),fun e=>absurd e.2 hpt⟩,hB,hs,hd,ks zl⟩
  ·have e2:decide ((f:Int)+1<(t:Int))=false:=decide_eq_false (by omega)
   (repeat first|refine wp_seq ?_|refine wp_block ?_|refine wp_region_list ?_|(refine tx hs hd zl ?_;clear hs hd zl;intro a hs hd zl)|(refine tn hs hd zl ?_;clear hs hd zl;intro a hs hd zl)|refine ct zl ?_|refine cf zl ?_|refine wp_skip ?_)
   exact⟨false,⟨(fun e=>by cases e),fun e=>absurd e.1 hfar⟩,hB,hs,hd,ks zl⟩
 clear hs hd zl hB hup;rintro a u ⟨bq,hbq,hB,hs,hd,zl⟩;have hup:=bup hB;change Code.wp _ _ _ _ _;refine then_cut (fun a u'=>u'=u∧SzIs a 175∧DfNil a∧LiveAll [(1,.int .i64 ((f:Nat):Int)),(2,.int .i64 ((t:Nat):Int)),(17,.func (.func 9) #[] #[.pointer (some ⟨g11,0,none⟩),.pointer (some ⟨g12,0,none⟩),.pointer (some ⟨g7,0,none⟩)]),(22,.int .i64 (if bq then 3 else 0))] a) ?_ ?_
 ·cases bq with
  |true=>
   (repeat first|refine wp_seq ?_|refine wp_block ?_|refine wp_region_list ?_|(refine tx hs hd zl ?_;clear hs hd zl;intro a hs hd zl)|(refine tn hs hd zl ?_;clear hs hd zl;intro a hs hd zl)|refine ct zl ?_|refine cf zl ?_|refine wp_skip ?_)
   exact⟨rfl,hs,hd,ks zl⟩
  |false=>
   (repeat first|refine wp_seq ?_|refine wp_block ?_|refine wp_region_list ?_|(refine tx hs hd zl ?_;clear hs hd zl;intro a hs hd zl)|(refine tn hs hd zl ?_;clear hs hd zl;intro a hs hd zl)|refine ct zl ?_|refine cf zl ?_|refine wp_skip ?_)
   exact⟨rfl,hs,hd,ks zl⟩
 clear hs hd zl;rintro a u' ⟨hu',hs,hd,zl⟩;subst hu';obtain⟨want,hw⟩:∃z:Int,z=if bq=true then 3 else 0:=⟨_,rfl⟩
 rw[← hw]at zl
 (repeat first|refine wp_seq ?_|refine wp_block ?_|refine wp_region_list ?_|(refine tx hs hd zl ?_;clear hs hd zl;intro a hs hd zl)|(refine tn hs hd zl ?_;clear hs hd zl;intro a hs hd zl)|refine ct zl ?_|refine cf zl ?_|refine wp_skip ?_)
 refine tc (hstp1 _ hB) hs hd zl ?_;rintro _ u1 ⟨r1,VX,VY,CT,B,q,rfl,hVX,hVY,hCT,hout,hb⟩;refine⟨_,rfl,?_⟩;clear hs hd zl;intro a hs hd zl;have hr1:r1=want:=by
  rw[hw];by_cases hfar:f+1<t
  ·have h1:=far_ok htt'.1 hCT hfo hto' ht0 hVX hVY hnc (by omega) hout;rw[h1,hT.out,← hp.out];by_cases hpt:p≤T / 3
   ·rw[if_pos hpt,if_pos (hbq.2 ⟨hfar,hpt⟩)]
   ·rw[if_neg hpt,if_neg (fun e=>hpt (hbq.1 e).2)]
  ·rw[if_neg (fun e=>hfar (hbq.1 e).1)];rw[show(10+(t:Int))=(10+(f:Int))+1 by omega]at hout;exact next_ok (X:=rf.S) htt'.1 hCT hto' ht0 hVY hout
 subst hr1;clear hw hout;replace hB:=bz_then hB hb;(try clear hup);have hup:=bup hB;clear hb
 (repeat first|refine wp_seq ?_|refine wp_block ?_|refine wp_region_list ?_|(refine tx hs hd zl ?_;clear hs hd zl;intro a hs hd zl)|(refine tn hs hd zl ?_;clear hs hd zl;intro a hs hd zl)|refine ct zl ?_|refine cf zl ?_|refine wp_skip ?_)
 refine tc (hstp2 _ hB) hs hd zl ?_;rintro _ u2 ⟨r2,VX',VY',CT',B',q',rfl,-,-,-,hout,hb⟩;refine⟨_,rfl,?_⟩;clear hs hd zl;intro a hs hd zl;obtain rfl:r2=2:=low_ok (by omega) hout;clear hout;replace hB:=bz_then hB hb;(try clear hup);have hup:=bup hB;clear hb
 (repeat first|refine wp_seq ?_|refine wp_block ?_|refine wp_region_list ?_|(refine tx hs hd zl ?_;clear hs hd zl;intro a hs hd zl)|(refine tn hs hd zl ?_;clear hs hd zl;intro a hs hd zl)|refine ct zl ?_|refine cf zl ?_|refine wp_skip ?_)
 refine wp_ret ?_;(repeat first|refine then_ret ?_|refine inBlock_ret ?_);exact end_tmp rfl hd (sl zl 6) ⟨rfl,bz_then hB1 hB⟩
end Go.Proofs.YtjhnnjhaklohhaaGreatDoor
namespace Go.Proofs.YtjhnnjhaklohhaaGreatDoor.fnChain
open Go.ChangeShapes Go.WideShapes Go.ChangeAt Go.RowKit Go.Deep
set_option linter.unusedVariables false
theorem own:ownKnob Tryz.prog.godebug=none:=by kernel_rfl
theorem laidOut:laidOutB Tryz.prog=true:=by kernel_rfl
theorem gK:Tryz.prog.globalNamed "lightclient/pub/sha256._K" =some 1:=by kernel_rfl
theorem tK:(Tryz.prog.globals[1]?).map (·.type)=some 99:=by kernel_rfl
theorem laid_list:(Rows.laid_lightclient_pub_sha256_K:DataW Unit)=.agg (kTab.map fun x=>.lit (.int .u32 x)):=rfl
theorem ktab{W:World}(h:laidMetH Tryz.prog [("lightclient/pub/sha256._K",Rows.laid_lightclient_pub_sha256_K)] W):KTab W 1:=by
 rw[MakeChecks.laidMetH_plain _ _ _ (by kernel_rfl)]at h;obtain⟨ps,⟨g1,t1,cs1,f1,p1,q1,hg1,ht1,hv1,hd1,_,_⟩,_,_⟩:=h;obtain rfl:=Option.some.inj (gK.symm.trans hg1);obtain rfl:=Option.some.inj (tK.symm.trans ht1);obtain⟨xs,m1,rfl,hx1,hlen,hn3,hel⟩:=DataW.trod_array Tryz.underlying99 hd1;have c3:Tryz.prog.cellsOf 96=1:=by kernel_rfl
 rw[c3]at hel;simp only[Prod.mk.injEq]at hx1;have hx:xs.map (·.1)=kTab.map fun x=>DataW.lit (Lit.int .u32 x):=by
  have h1:=hx1.1;rw[laid_list]at h1;exact DataW.agg.inj h1.symm
 intro i hi;have hxi:i<xs.length:=by omega
 have h0:=hel i hi;rw[List.getElem?_eq_getElem hxi,Nat.mul_one]at h0;obtain⟨k,e1,e2,_⟩:=DataW.trod_int Tryz.underlying96 h0;have hk:k=kTab.getD i 0:=by
  have h2:(xs.map (·.1))[i]?=(kTab.map fun x=>DataW.lit (Lit.int .u32 x))[i]?:=by rw[hx]
  have hkl:i<kTab.length:=hi;rw[List.getElem?_map,List.getElem?_map,List.getElem?_eq_getElem hxi,List.getElem?_eq_getElem hkl,e2]at h2;simp only[Option.map_some,Option.some.injEq,DataW.lit.injEq,Lit.int.injEq,true_and]at h2;rw[h2,List.getD_eq_getElem?_getD,List.getElem?_eq_getElem hkl];rfl
 rw[World.var?_cell gK hv1 i,← Array.getElem?_toList];have h3:((cs1.toList.drop i).take 1)[0]?=some (Value.int .u32 k):=by rw[e1];rfl
 rw[List.getElem?_take,if_pos (by decide),List.getElem?_drop,Nat.add_zero]at h3;rw[h3,hk]
section
variable{H:Type}{enc:TypeId×Value→H}{W:World}
theorem open_seats{fuel:Nat}{a:Option Addr}{n c:Nat}{x:DataW H×List MemPlace}(h:DataW.trod enc Tryz.prog W 0 (fun _=>true) true fuel 25 [.slice a n c]=some x):
  ∃L:List Seat,L.length=n∧SeatsAt W a L∧(Fm a L.length c∨∃ad,a=some ad∧L=[])∧L.length≤c∧c≤9223372036854775807∧∀s∈L,-9223372036854775808≤s.p∧s.p≤9223372036854775807:=by
 rcases open_slice Tryz.underlying25 h with⟨hcs,_⟩|⟨ad,len,cap,m,f,D,Pl,hcs,_,hl,hm,hmm,_,hi⟩
 ·simp at hcs;obtain⟨rfl,rfl,rfl⟩:=hcs;exact⟨[],rfl,RowsAt.nil _ _ _,.inl (.inl ⟨rfl,rfl,rfl⟩),Nat.le_refl _,by decide,fun s hs=>by cases hs⟩
 ·simp at hcs;obtain⟨rfl,rfl,rfl⟩:=hcs;have hm':m=c:=hmm;subst hm';have hC:Tryz.prog.cellsOf 63=4:=by kernel_rfl
  have hone:oneCellFields Tryz.prog #[{name:= "Address",type:=9,offset:=0,embedded:=false,tag:= "",pkgPath:= "",byteOffset:=0},{name:= "Key",type:=9,offset:=1,embedded:=false,tag:= "",pkgPath:= "",byteOffset:=16},{name:= "Power",type:=3,offset:=2,embedded:=false,tag:= "",pkgPath:= "",byteOffset:=32},{name:= "Priority",type:=3,offset:=3,embedded:=false,tag:= "",pkgPath:= "",byteOffset:=40}]=true:=by kernel_rfl
  have hs:∀i,i<m→∃s:Seat,(∀j v,s.cells[j]?=some v→W.cell? (ad.add (i*4+j))=some v)∧-9223372036854775808≤s.p∧s.p≤9223372036854775807:=by
   intro i him;obtain⟨cs',hc,ht'⟩:=hi i him;rw[hC]at hc;obtain⟨ys,n',hn',hy,hlen,hyl,hf⟩:=DataW.trod_struct Tryz.underlying63 ht';obtain⟨_,hcl,hat⟩:=World.cells?_some hc;rcases cs' with _|⟨v0,_|⟨v1,_|⟨v2,_|⟨v3,_|⟨v4,ct⟩⟩⟩⟩⟩
   ·cases hcl
   ·cases hcl
   ·cases hcl
   ·cases hcl
   rotate_left
   ·exact absurd hcl (by simp)
   ·obtain⟨o0,k0⟩:=hone_of hone 0 _ rfl;obtain⟨o1,k1⟩:=hone_of hone 1 _ rfl;obtain⟨o2,k2⟩:=hone_of hone 2 _ rfl;obtain⟨o3,k3⟩:=hone_of hone 3 _ rfl;have g0:=hf 0 _ rfl;have g1:=hf 1 _ rfl;have g2:=hf 2 _ rfl;have g3:=hf 3 _ rfl;rw[o0,k0,List.getElem?_eq_getElem (show 0<ys.length by rw[hyl];decide)]at g0;rw[o1,k1,List.getElem?_eq_getElem (show 1<ys.length by rw[hyl];decide)]at g1;rw[o2,k2,List.getElem?_eq_getElem (show 2<ys.length by rw[hyl];decide)]at g2;rw[o3,k3,List.getElem?_eq_getElem (show 3<ys.length by rw[hyl];decide)]at g3;obtain⟨s0,e0,_,_⟩:=DataW.trod_string Tryz.underlying9 g0;obtain⟨s1,e1,_,_⟩:=DataW.trod_string Tryz.underlying9 g1;obtain⟨p2,e2,_,w2⟩:=DataW.trod_int Tryz.underlying3 g2;obtain⟨p3,e3,_,_⟩:=DataW.trod_int Tryz.underlying3 g3;obtain rfl:v0=.string s0:=List.singleton_inj.1 e0;obtain rfl:v1=.string s1:=List.singleton_inj.1 e1;obtain rfl:v2=.int .i64 p2:=List.singleton_inj.1 e2;obtain rfl:v3=.int .i64 p3:=List.singleton_inj.1 e3;refine⟨⟨s0,s1,p2,p3⟩,fun j v hj=>?_,bounds_i64 w2⟩;have hj4:j<4:=(List.getElem?_eq_some_iff.1 hj).1;have:=hat j hj4;rw[Go.Deep.add_add]at this;rw[this];exact hj
  have hex:∃f:Nat→Seat,∀i,i<m→(∀j v,(f i).cells[j]?=some v→W.cell? (ad.add (i*4+j))=some v)∧-9223372036854775808≤(f i).p∧(f i).p≤9223372036854775807:=
   ⟨fun i=>if h:i<m then Classical.choose (hs i h)else⟨⟨#[]⟩,⟨#[]⟩,0,0⟩,fun i h=>by simp only[dif_pos h];exact Classical.choose_spec (hs i h)⟩
  obtain⟨f,hf⟩:=hex;have hget:∀i s,((List.range n).map f)[i]?=some s→i<n∧s=f i:=by
   intro i s h;rw[List.getElem?_map]at h;have hin:i<n:=by
    rcases Nat.lt_or_ge i n with h'|h'
    ·exact h'
    ·rw[List.getElem?_eq_none (by simpa using h')]at h;cases h
   rw[List.getElem?_range hin]at h;exact⟨hin,by simpa using h.symm⟩
  refine⟨(List.range n).map f,by simp,?_,?_,by simpa using hl,by unfold maxLen at hm;exact hm,?_⟩
  ·intro i r hr;have hr':=hr;unfold seatRows at hr;rw[List.getElem?_map]at hr;rcases hq:((List.range n).map f)[i]? with _|s
   ·rw[hq]at hr;cases hr
   ·rw[hq]at hr;simp only[Option.map_some,Option.some.injEq]at hr;obtain⟨hin,rfl⟩:=hget i s hq;subst hr;obtain⟨hc,_⟩:=hf i (by omega);have h0:=hc 0 _ rfl;have hsp:ad=⟨ad.block,ad.off,none⟩:=by
     have h00:=(hf 0 (by omega)).1 0 _ rfl;have:=World.cell?_spot h00;obtain⟨b,o,sp⟩:=ad;simpa [Addr.add]using this
    have hc0:=hc 0 _ rfl;rw[hsp,addr_add]at hc0;refine⟨rfl,ad.block,ad.off,by rw[← hsp],World.block_lt_of_cell? W ⟨ad.block,_,none⟩ hc0,fun j v hj=>?_⟩
    ·have:=hc j v hj;rw[hsp,addr_add]at this;simpa [Nat.add_assoc]using this
  ·by_cases hn0:n=0
   ·subst hn0;exact .inr ⟨ad,rfl,rfl⟩
   ·left
    right
    have h00:=(hf 0 (by omega)).1 0 _ rfl;have:=World.cell?_spot h00;obtain⟨b,o,sp⟩:=ad;refine⟨b,o,?_⟩;have:sp=none:=by simpa [Addr.add]using this
    rw[this]
  ·intro s hs';obtain⟨i,hi',rfl⟩:=List.mem_map.1 hs';exact(hf i (by have:=List.mem_range.1 hi';omega)).2
theorem open_lists{fuel:Nat}{a:Option Addr}{n c:Nat}{x:DataW H×List MemPlace}(h:DataW.trod enc Tryz.prog W 0 (fun _=>true) true fuel 22 [.slice a n c]=some x):
  ∃R:List Nl,R.length=n∧SlsAt W a R∧(Fm a R.length c∨∃ad,a=some ad∧R=[])∧R.length≤c∧c≤9223372036854775807∧∀r∈R,SlIn r:=by
 rcases open_slice Tryz.underlying22 h with⟨hcs,_⟩|⟨ad,len,cap,m,f,D,Pl,hcs,_,hl,hm,hmm,_,hi⟩
 ·simp at hcs;obtain⟨rfl,rfl,rfl⟩:=hcs;exact⟨[],rfl,⟨RowsAt.nil _ _ _,fun r hr=>by cases hr⟩,.inl (.inl ⟨rfl,rfl,rfl⟩),Nat.le_refl _,by decide,fun s hs=>by cases hs⟩
 ·simp at hcs;obtain⟨rfl,rfl,rfl⟩:=hcs;have hm':m=c:=hmm;subst hm';have hC:Tryz.prog.cellsOf 25=1:=by kernel_rfl
  have hs:∀i,i<m→∃r:Nl,W.cell? (ad.add i)=some r.v∧SeatsAt W r.A r.S∧SlIn r:=by
   intro i him;obtain⟨cs',hc,ht'⟩:=hi i him;rw[hC,Nat.mul_one]at hc;obtain⟨_,_,hat⟩:=World.cells?_some hc;have hform:∃A n c,cs'=[.slice A n c]:=by
    rcases open_slice Tryz.underlying25 ht' with⟨hcs,_⟩|⟨ad,len,cap,m,f,D,Pl,hcs,_⟩
    ·exact⟨none,0,0,hcs⟩
    ·exact⟨some ad,len,cap,hcs⟩
   obtain⟨A,n,c,rfl⟩:=hform;obtain⟨S,rfl,h1,h2,h3,h4,h5⟩:=open_seats ht';have:=hat 0 (by decide);rw[Go.Deep.add_add,Nat.add_zero]at this;exact⟨⟨A,S,c⟩,this,h1,h2,h3,h4,h5⟩
  have hex:∃f:Nat→Nl,∀i,i<m→W.cell? (ad.add i)=some (f i).v∧SeatsAt W (f i).A (f i).S∧SlIn (f i):=
   ⟨fun i=>if h:i<m then Classical.choose (hs i h)else⟨none,[],0⟩,fun i h=>by simp only[dif_pos h];exact Classical.choose_spec (hs i h)⟩
  obtain⟨f,hf⟩:=hex;have hget:∀r,r∈(List.range n).map f→∃i,i<n∧r=f i:=fun r hr=>by
   obtain⟨i,hi',rfl⟩:=List.mem_map.1 hr;exact⟨i,List.mem_range.1 hi',rfl⟩
  refine⟨(List.range n).map f,by simp,⟨fun i r hr=>?_,fun r hr=>?_⟩,?_,by simpa using hl,by unfold maxLen at hm;exact hm,fun r hr=>?_⟩
  ·unfold slRows at hr;rw[List.getElem?_map,List.getElem?_map]at hr;have hin:i<n:=by
    rcases Nat.lt_or_ge i n with h'|h'
    ·exact h'
    ·rw[List.getElem?_eq_none (by simpa using h')]at hr;cases hr
   rw[List.getElem?_range hin]at hr;simp only[Option.map_some,Option.some.injEq]at hr;subst hr;have h0:=(hf i (by omega)).1;have hsp:=World.cell?_spot (hf 0 (by omega)).1;obtain⟨b,o,sp⟩:=ad;have hsp:sp=none:=by simpa [Addr.add]using hsp
   subst hsp;rw[addr_add]at h0;refine⟨rfl,b,o,rfl,World.block_lt_of_cell? W _ h0,fun j v hj=>?_⟩;obtain rfl:j=0:=by
    have:=(List.getElem?_eq_some_iff.1 hj).1;simpa using this
   rw[Nat.mul_one,Nat.add_zero,h0];exact hj
  ·obtain⟨i,hi',rfl⟩:=hget r hr;exact(hf i (by omega)).2.1
  ·by_cases hn0:n=0
   ·subst hn0;exact .inr ⟨ad,rfl,rfl⟩
   ·left
    right
    have hsp:=World.cell?_spot (hf 0 (by omega)).1;obtain⟨b,o,sp⟩:=ad;refine⟨b,o,?_⟩;have:sp=none:=by simpa [Addr.add]using hsp
    rw[this]
  ·obtain⟨i,hi',rfl⟩:=hget r hr;exact(hf i (by omega)).2.2
end
theorem lifted(os:Os)(started:os.Started)(H:Type)(enc:TypeId×Value→H):
  ReturnsInHanded {} Tryz.checked os 3 .any (fun w args=>(Rows.fnChainSpec.pre enc Tryz.prog Tryz.f3 [] false w args∧laidMetH Tryz.prog [("lightclient/pub/sha256._K",Rows.laid_lightclient_pub_sha256_K)] w)∧sizedMet enc Tryz.prog Tryz.f3 (OpenSpec.ofChange Rows.fnChainSpec) false w args)
   (Rows.fnChainSpec.post enc Tryz.prog Tryz.f3 false true false false):=by
 refine returnsInHanded_of_change_and (C:=Tryz.checked) (X:=fun w _=>laidMetH Tryz.prog [("lightclient/pub/sha256._K",Rows.laid_lightclient_pub_sha256_K)] w) (fun _ _ _ hh h=>h.of_heap hh) own started (by kernel_rfl) Tryz.func3
  (ChangeSpec.witness_shaped (enc:=enc) (C:=Tryz.checked) (os:=os) (X:=fun w _=>laidMetH Tryz.prog [("lightclient/pub/sha256._K",Rows.laid_lightclient_pub_sha256_K)] w) false (World.laidAll Tryz.prog os [("lightclient/pub/sha256._K",Rows.laid_lightclient_pub_sha256_K)]) #[.slice none 0 0,.int .i64 0,.int .i64 0] 8 (World.laidAll_os _ _ _)
   (World.shaped_of_ZipB (by kernel_rfl) (by kernel_rfl)) (by kernel_rfl) (by kernel_rfl) (by kernel_rfl)
   (by rw[MakeChecks.laidMetH_plain _ _ _ (by kernel_rfl)];exact laidMet_laidAll _ (by kernel_rfl) (by kernel_rfl))) ?_
 intro W base args ds gs before hval0 hW _ _ hLd _;have hval:∀(j:Nat) t v,Tryz.f3.params[j]?=some t→args[j]?=some v→Value.okWide Tryz.prog W .any base t v:=hval0;have hW':=hW;obtain⟨p,q,hA0,hV,rfl,_,_⟩:=hW;have hA:DataW.TrodAll enc Tryz.prog W 0 (fun _=>true) true Tryz.f3.params.toList args.toList ds p:=hA0;rw[Tryz.params3]at hA hval;obtain⟨v0,vs0,d0,ds0,p0,q0,hargs,rfl,rfl,h0,r0⟩:=trodAll_cons hA;obtain⟨v1,vs1,d1,ds1,p1,q1,rfl,rfl,rfl,h1,r1⟩:=trodAll_cons r0;obtain⟨v2,vs2,d2,ds2,p2,q2,rfl,rfl,rfl,h2,r2⟩:=trodAll_cons r1;obtain⟨rfl,rfl,rfl⟩:=trodAll_nil r2;obtain rfl:args=#[v0,v1,v2]:=by cases args;simp_all
 obtain⟨rfl,rfl⟩:=trodVars_none hV;obtain⟨a0,n0,c0,rfl⟩:=okWide_slice Tryz.underlying22 (hval 0 22 v0 rfl rfl);obtain⟨a1,rfl,rfl,rfl,w1⟩:=open_int Tryz.underlying3 (hval 1 3 v1 rfl rfl) h1;obtain⟨a2,rfl,rfl,rfl,w2⟩:=open_int Tryz.underlying3 (hval 2 3 v2 rfl rfl) h2;have k0:=h0;have lt0:∀x∈p0,x.block<W.heap.size:=by obtain⟨m,hm⟩:=k0;exact DataW.trod_lt m _ _ _ hm
 obtain⟨m0,h0⟩:=h0;obtain⟨R0,rfl,hR0,hf0,hle0,hc0,hin⟩:=open_lists h0;have hKt:=ktab hLd;have hK0:1<W.heap.size:=World.block_lt_of_cell? W _ (hKt 0 (by decide));clear hA0 hval0;refine(w_FnChain R0 a1 a2 a0 c0 W hR0 hf0 hle0 hc0 hin (bounds_i64 w1) (bounds_i64 w2) hKt hK0).mono fun e W' ⟨he,bel⟩=>?_
 subst he;exact⟨_,rfl,_,_,_,[],_,[],hW',trodAll_mk1 (shut_bool Tryz.underlying4 _),(trodAll_cons_mk (Below.trod laidOut (by kernel_rfl) (of_decide_eq_true (by kernel_rfl)) k0 bel lt0) (trodAll_cons_mk (shut_int Tryz.underlying3 w1) (trodAll_cons_mk (shut_int Tryz.underlying3 w2) trodAll_mk0))),rfl,bel.frame _,fun h=>by cases h⟩
theorem over:Rows.FnChainSaid:=
 OpenClaim.holds_of_wide 3 Tryz.f3 rfl rfl rfl rfl rfl rfl rfl ⟨rfl,rfl,rfl,rfl,rfl⟩ rfl rfl rfl rfl rfl (by kernel_rfl) Tryz.func3 (by kernel_rfl)
  (of_decide_eq_true (by kernel_rfl)) (by unfold Func.isWrapper;first|(rw[if_pos (by decide+kernel)];kernel_rfl)|(rw[if_neg (by decide+kernel)];exact⟨rfl,rfl⟩))
  (fun os started H enc _=>lifted os started H enc)
theorem proved:Rows.FnChainCardSaid:=
 Claim7.holds_tied_plain_at .later [] [.data] true (true, "eaa69347d5ce1deca11cebebd0cffbaa9a9e9d153fa4b62ad8d7ea5271b0d256") true
  over (fun _ h=>by cases h) (by kernel_rfl) (fun _ h=>by cases h) fnChain_row_tie rfl ⟨rfl,rfl⟩ (by kernel_rfl) rfl
  (fun f fn hf hfn=>by
   obtain rfl:f=3:=Option.some.inj ((show Tryz.prog.funcNamed "lightclient/laws.FnChain" =some 3 by kernel_rfl).symm.trans hf) |>.symm;obtain rfl:fn=Tryz.f3:=(Option.some.inj (Tryz.func3.symm.trans hfn)).symm;exact⟨by kernel_rfl,fun j t ht=>by
    rw[Tryz.params3]at ht;have hm:t∈[22,3,3]:=by simpa using Array.mem_of_getElem? ht
    have hall:([22,3,3].all fun u=>!Tryz.prog.wantsStandIn u)=true:=by kernel_rfl
    exact(show Tryz.prog.wantsStandIn t=false by simpa using List.all_eq_true.1 hall t hm)⟩)
  (by kernel_rfl)
#print axioms proved
end Go.Proofs.YtjhnnjhaklohhaaGreatDoor.fnChain
