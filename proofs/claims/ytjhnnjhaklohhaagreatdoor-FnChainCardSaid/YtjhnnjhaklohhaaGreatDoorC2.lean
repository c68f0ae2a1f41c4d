/- A commit signed by the keys of a set. A commit of a header by a set. The step of the thin package. Sizes. (Printed by gen_fits.py.) FnForged: what its liars' power is worth. As XFlowd; what the chain has come to may speak of the slots that it has written. -/
import Derived.Test.YtjhnnjhaklohhaaGreatDoorC1
import Derived.Test.YtjhnnjhaklohhaaGreatDoorM10
import Derived.Test.YtjhnnjhaklohhaaGreatDoorM1
import Derived.Test.YtjhnnjhaklohhaaGreatDoorM7
set_option linter.unusedVariables false
set_option linter.unusedSimpArgs false
set_option maxHeartbeats 4000000
set_option maxRecDepth 100000
namespace Go.Proofs.YtjhnnjhaklohhaaGreatDoor
open Go.RowKit
theorem flat_setG{α:Type}{k:Nat}:∀{R:List (List α)} {i j:Nat} {r rest:List α} {v:α},(∀x∈R,x.length=k)→R[i]?=some r→j<k→(R.flatten++rest).set (i*k+j) v=(R.set i (r.set j v)).flatten++rest
 | [],i,_,_,_,_,_,h,_=>by simp at h
 |x::R,0,j,r,rest,v,h,hi,hj=>by
  have hx:=h x (List.mem_cons_self ..);simp at hi;subst hi;rw[Nat.zero_mul,Nat.zero_add,List.flatten_cons,List.append_assoc,List.set_append_left _ _ (by rw[hx];exact hj),List.set_cons_zero,List.flatten_cons,List.append_assoc]
 |x::R,i+1,j,r,rest,v,h,hi,hj=>by
  have hx:=h x (List.mem_cons_self ..);have ih:=flat_setG (rest:=rest) (v:=v) (fun y hy=>h y (List.mem_cons_of_mem _ hy)) (by simpa using hi) hj;rw[List.flatten_cons,List.append_assoc,List.set_append_right _ _ (by rw[hx,Nat.succ_mul];omega),hx,show(i+1)*k+j-k=i*k+j by rw[Nat.succ_mul];omega,ih,List.set_cons_succ,List.flatten_cons,List.append_assoc]
theorem sgRows5(S:List Sg):∀r∈sgRows S,r.length=5:=by
 intro r hr;obtain⟨s,_,rfl⟩:=List.mem_map.1 hr;rfl
theorem sgRows_set(S:List Sg)(i:Nat)(s:Sg):sgRows (S.set i s)=(sgRows S).set i s.cells:=by unfold sgRows;rw[List.map_set]
def SgBl(S:List Sg)(rest:List Value):Array Value:=((sgRows S).flatten++rest).toArray
def SgB(w:World)(g:Nat)(S:List Sg)(rest:List Value):Prop:=Blk w g 59 (SgBl S rest)
theorem SgBl_sig(S:List Sg)(rest:List Value)(i:Nat)(s:Sg)(x:HSl)(hi:S[i]?=some s):(SgBl S rest).setIfInBounds (i*5+4) x.v=SgBl (S.set i {s with sg:=x}) rest:=by
 unfold SgBl;rw[sgRows_set,← show s.cells.set 4 x.v=({s with sg:=x}:Sg).cells from rfl,← flat_setG (sgRows5 S) (sgRows_get hi) (by decide)];simp
theorem SgB.cell{w:World}{g:Nat}{S:List Sg}{rest:List Value}(h:SgB w g S rest){i:Nat}{s:Sg}(hs:S[i]?=some s){j:Nat}{v:Value}(hv:s.cells[j]?=some v):w.cell? ⟨g,i*5+j,none⟩=some v:=by
 have hj:j<5:=(List.getElem?_eq_some_iff.1 hv).1;have hi:i<S.length:=(List.getElem?_eq_some_iff.1 hs).1;rw[Blk.cell h];unfold SgBl;rw[List.getElem?_toArray,List.getElem?_append_left (by rw[flatten_len (sgRows5 S),sgRows_length];omega),flatten_get (sgRows5 S) i _ (sgRows_get hs) j hj,hv]
theorem SgB.rows{w:World}{g:Nat}{S:List Sg}{rest:List Value}(h:SgB w g S rest):RowsAt w (some ⟨g,0,none⟩) 5 (sgRows S):=fun i r hr=>by
 unfold sgRows at hr;rw[List.getElem?_map]at hr
 cases hs:S[i]? with
 |none=>rw[hs]at hr;cases hr
 |some s=>
  rw[hs]at hr;injection hr with hr;subst hr;exact⟨rfl,g,0,rfl,Blk.lt h,fun j v hj=>by rw[Nat.zero_add];exact h.cell hs hj⟩
theorem OwnR.sgb{base:Nat}{w:World}{A:Option Addr}{c:Nat}{S:List Sg}(h:OwnR 59 5 base w A c (sgRows S))(hn:0<S.length):∃g rest,A=some ⟨g,0,none⟩∧base≤g∧SgB w g S rest∧S.length≤c:=by
 rcases h.form with⟨_,_,h0⟩|⟨g,cur,h1,h2,h3,h4,h5,h6,h7⟩
 ·rw[← sgRows_length,h0]at hn;exact absurd hn (Nat.not_lt_zero 0)
 ·have e:cur=SgBl S (cur.toList.drop ((sgRows S).length*5)):=by
   unfold SgBl;rw[← h7,List.take_append_drop]
  rw[sgRows_length]at h5;refine⟨g,cur.toList.drop ((sgRows S).length*5),h1,h2,?_,h5⟩;unfold SgB;rw[← e];exact h4
structure Rs1(C:Ic)(ch key:ByteArray)(s t:Sg):Prop where
 fl:t.fl=s.fl
 ad:t.ad=s.ad
 sec:t.sec=s.sec
 ns:t.ns=s.ns
 keep:s.fl=1→t.sg=s.sg
 sig:s.fl≠1→t.sg.l=psL (bytesOf key) (msgL (s.fl == 2) C.ht C.rd C.b.l C.bt C.bp.l s.sec s.ns ch)
structure RsL(C:Ic)(ch:ByteArray)(L:List Seat)(k:Nat)(T:List Sg):Prop where
 len:T.length=C.S.length
 done:∀(i:Nat) s v t,i<k→C.S[i]?=some s→L[i]?=some v→T[i]?=some t→Rs1 C ch v.k s t
 todo:∀i:Nat,k≤i→T[i]?=C.S[i]?
theorem RsL.zero(C:Ic)(ch:ByteArray)(L:List Seat):RsL C ch L 0 C.S:=⟨rfl,fun i _ _ _ h=>absurd h (Nat.not_lt_zero i),fun _ _=>rfl⟩
theorem RsL.keep{C:Ic}{ch:ByteArray}{L:List Seat}{k:Nat}{T:List Sg}{t:Sg}(h:RsL C ch L k T)(ht:T[k]?=some t)(hf:t.fl=1):RsL C ch L (k+1) T:=⟨h.len,fun i s v t' hi h1 h2 h3=>by
 rcases Nat.lt_or_ge i k with hk|hk
 ·exact h.done i s v t' hk h1 h2 h3
 ·obtain rfl:i=k:=by omega
  have e:=h.todo i (Nat.le_refl _);rw[h3,h1]at e;injection e with e;subst e;rw[h3]at ht;injection ht with ht;subst ht;exact⟨rfl,rfl,rfl,rfl,fun _=>rfl,fun hn=>absurd hf hn⟩,fun i hi=>h.todo i (by omega)⟩
theorem RsL.next{C:Ic}{ch:ByteArray}{L:List Seat}{k:Nat}{T:List Sg}{t:Sg}{x:HSl}{v:Seat}(h:RsL C ch L k T)(ht:T[k]?=some t)(hv:L[k]?=some v)(hx:t.fl≠1→x.l=psL (bytesOf v.k) (msgL (t.fl == 2) C.ht C.rd C.b.l C.bt C.bp.l t.sec t.ns ch))(hf:t.fl≠1):RsL C ch L (k+1) (T.set k {t with sg:=x}):=⟨by rw[List.length_set,h.len],fun i s v' t' hi h1 h2 h3=>by
 rcases Nat.lt_or_ge i k with hk|hk
 ·rw[List.getElem?_set_ne (by omega)]at h3;exact h.done i s v' t' hk h1 h2 h3
 ·obtain rfl:i=k:=by omega
  have e:=h.todo i (Nat.le_refl _);rw[ht,h1]at e;injection e with e;subst e;rw[hv]at h2;injection h2 with h2;subst h2;rw[List.getElem?_set_self (List.getElem?_eq_some_iff.1 ht).1]at h3;injection h3 with h3;subst h3;exact⟨rfl,rfl,rfl,rfl,fun hn=>absurd hn hf,hx⟩,fun i hi=>by rw[List.getElem?_set_ne (by omega)];exact h.todo i (by omega)⟩
def CmR(C:Ic)(T:List Sg)(n:Nat)(v:Value)(w:World):Prop:=∃A' c',v=.agg (icCells C.ht C.rd C.b C.bt C.bp A' n c')∧RowsAt w A' 5 (sgRows T)
theorem CmR.keeps(C:Ic)(T:List Sg)(n:Nat):∀v (w w':World),Below w.heap.size w w'→CmR C T n v w→CmR C T n v w':=fun _ _ _ hb ⟨A',c',h1,h2⟩=>⟨A',c',h1,h2.after hb⟩
def SgFar(T:List Sg)(gs:List Nat)(w:World):Prop:=∀t∈T,t.sg.ok w∧∀b,blkOf t.sg.A=some b→b∉gs
theorem SgFar.after{T:List Sg}{g:List Nat}{w w':World}(h:SgFar T g w)(hb:Below w.heap.size w w'):SgFar T g w':=fun t ht=>⟨(h t ht).1.after hb,(h t ht).2⟩
theorem SgFar.gb{T:List Sg}{g:Nat}{gs:List Nat}{w w':World}(h:SgFar T gs w)(hg:g∈gs)(hb:GB w w' g):SgFar T gs w':=fun t ht=>⟨(h t ht).1.gb hb (fun b hb e=>(h t ht).2 b hb (by rw[e];exact hg)),(h t ht).2⟩
theorem SgFar.less{T:List Sg}{gs gs':List Nat}{w:World}(h:SgFar T gs w)(hg:∀g∈gs',g∈gs):SgFar T gs' w:=fun t ht=>⟨(h t ht).1,fun b hb hm=>(h t ht).2 b hb (hg b hm)⟩
theorem SgFar.set{T:List Sg}{gs:List Nat}{w:World}(h:SgFar T gs w)(k:Nat){t:Sg}(ht:t.sg.ok w∧∀b,blkOf t.sg.A=some b→b∉gs):SgFar (T.set k t) gs w:=fun y hy=>by
 rcases List.mem_or_eq_of_mem_set hy with h'|rfl
 ·exact h y h'
 ·exact ht
section
variable{P:Program}{Q:Exit→Act→World→Prop}
theorem bcx{F:List (Nat×Value)}{sz:Nat}{W:World}{its:List FItem}{o:Oper}{d:Nat}{R:Value→World→Prop}{it:FItem}{f:FuncId}{args:Array Value}(hit:∀(a:Act) w v,SzIs a sz→R v w→it.holds (a.put (some d) v) w)(hc:∀w,Below W.heap.size W w→Calls P f args w fun e w'=>∃v,e=.returned v∧R v w'∧Below w.heap.size w w')
  (hdst:o.dst=some d:=by exact rfl)
  (h:∀(a:Act) (w:World),Below W.heap.size W w→LiveAll F a→DepsHold its a w (deps o)→∀(K:Act→World→Prop) (Q:Exit→Act→World→Prop),(∀S:Ending→World→Prop,(∀v w',K (a.put (some d) v) w'→S (.returned v) w')→Calls P f args w S)→o.wp P a w K Q:=by
   (intro a w hb zl hd K Q hK;have q:=gA zl;have q1:=bup hb;(try have q2:=bup (bz_then hB hb));simp only[GetAll]at q;simp[deps,Region.binds,deG,deN,eqG]at hd;go_simp;(with_reducible refine hK _ ?_);exact fun v w' h=>h)):
  Bare P Q F sz W its o it:=fun a w hb hs hl hd K hK=>h a w hb hl hd K Q fun S hS=>(hc w hb).mono fun e w' he=>by
 obtain⟨v,rfl,hv,hb'⟩:=he;rw[hdst]at hK;exact hS _ _ (hK _ _ hb' (hit _ _ _ hs hv))
theorem bcy{F:List (Nat×Value)}{sz:Nat}{W:World}{its:List FItem}{o:Oper}{d t:Nat}{R1 R:Value→World→Prop}{it:FItem}{f:FuncId}{args:Value→Array Value}(hR:∀(a:Act) w,DepsHold its a w (deps o)→R1 (a.tmps.getD t undef) w)(hit:∀(a:Act) w v,SzIs a sz→R v w→it.holds (a.put (some d) v) w)
  (hc:∀w x,Below W.heap.size W w→R1 x w→Calls P f (args x) w fun e w'=>∃v,e=.returned v∧R v w'∧Below w.heap.size w w')
  (hdst:o.dst=some d:=by exact rfl)
  (h:∀(a:Act) (w:World) (x:Value),Below W.heap.size W w→LiveAll F a→DepsHold its a w (deps o)→a.tmps[t]?.getD undef=x→∀(K:Act→World→Prop) (Q:Exit→Act→World→Prop),(∀S:Ending→World→Prop,(∀v w',K (a.put (some d) v) w'→S (.returned v) w')→Calls P f (args x) w S)→o.wp P a w K Q:=by
   (intro a w x hb zl hd qx K Q hK;have q:=gA zl;have q1:=bup hb;(try have q2:=bup (bz_then hB hb));simp only[GetAll]at q;simp[deps,Region.binds,deG,deN,eqG]at hd;go_simp;(with_reducible refine hK _ ?_);exact fun v w' h=>h)):
  Bare P Q F sz W its o it:=fun a w hb hs hl hd K hK=>h a w _ hb hl hd (gd rfl) K Q fun S hS=>(hc w _ hb (hR a w hd)).mono fun e w' he=>by
 obtain⟨v,rfl,hv,hb'⟩:=he;rw[hdst]at hK;exact hS _ _ (hK _ _ hb' (hit _ _ _ hs hv))
end
theorem psL_ok(k m:List Int):Bytes (psL k m)∧(psL k m).length≤2200000000:=⟨sha_bytes _,by
 have:(psL k m).length=32:=rfl;omega⟩
def icAt(C:Ic)(g n c:Nat):Array Value:=icCells C.ht C.rd C.b C.bt C.bp (some ⟨g,0,none⟩) n c
theorem c_resd(C:Ic)(L:List Seat)(A2:Option Addr)(c2:Nat)(ch:ByteArray)(w:World)(hCb:C.b.ok w)(hCp:C.bp.ok w)(hrows:RowsAt w C.A 5 (sgRows C.S))(hL:SeatsAt w A2 L)(hG:Good L)(hlen:C.S.length=L.length)(hn0:0<L.length)(hn20:L.length≤20)(hcn:C.num)(hbl:C.b.l.length≤1000)(hpl:C.bp.l.length≤1000)(hTm:∀s∈C.S,s.fl≠1→Tm0 s.sec s.ns)(gs:List Nat)(hgs:∀x∈gs,x<w.heap.size)(hsg:SgFar C.S gs w)(hch:ch.size≤1000)(hKt:KTab w 1)(h0:1<w.heap.size):
  Calls Tryz.prog 21 #[.string ch,.agg C.cells,.slice A2 L.length c2,.slice none 0 0] w fun e w'=>∃(T:List Sg) (g c:Nat) (rest:List Value),e=.returned (.agg (icAt C g L.length c))∧w.heap.size≤g∧SgB w' g T rest∧L.length≤c∧RsL C ch L L.length T∧SgFar T (g::gs) w'∧Below w.heap.size w w':=by
 obtain⟨n,hN⟩:∃n,Is L.length n:=is_self _;obtain⟨b2,o2,rfl,hb2,hcs2⟩:=hL.at_ hn0;rw[hN.out]at hlen hn0 hn20⊢;have HLN:=Is.hid hlen;rw[show C.cells=icCells C.ht C.rd C.b C.bt C.bp C.A n C.c by unfold Ic.cells icCells;rw[hlen]];clear hlen;refine en (sz:=65) rfl rfl rfl fun a hs hd zl=>?_;have hB:=bz_refl w
 refine wp_seq (wp_region_list ?_);refine ta (cs:=icCells C.ht C.rd C.b C.bt C.bp C.A n C.c) hs hd zl ?_;intro g5 u hg5 hge5 hb;clear hs hd zl;intro a hs hd zl;replace hB:=bz_then hB hb;(try clear hup);have hup:=bup hB;clear hb;refine ta hs hd zl ?_;intro g8 u hg8 hge8 hb;clear hs hd zl;intro a hs hd zl;have HG8:=Nat.le_trans hB.size hge8;have h85:g8≠g5:=by have:=hg5.lt;omega
 replace hg5:=hg5.after hb;replace hB:=bz_then hB hb;(try clear hup);have hup:=bup hB;clear hb;have c0:u.cell? ⟨g5,5,none⟩=some (.slice C.A n C.c):=hg5.cell 5;refine wW ?_;clear hs hd zl;intro a hs hd zl;have hcl:=c_Clone C.S C.A C.c u (hrows.after hB) (by rw[HLN.out];exact hn0) (by rw[HLN.out];omega);rw[HLN.out]at hcl;refine tc hcl hs hd zl ?_;rintro _ u1 ⟨A',c',rfl,hown,hb⟩;refine⟨_,rfl,?_⟩;clear hs hd zl;intro a hs hd zl;clear hcl;obtain⟨g,rest,rfl,hge,hSB,hcap⟩:=hown.sgb (by rw[HLN.out];exact hn0);rw[HLN.out]at hcap;have hgw:=Nat.le_trans hB.size hge;have HGW:=Is.hid hgw;replace hg5:=hg5.after hb;replace hg8:=hg8.after hb;clear hown c0;replace hB:=bz_then hB hb;(try clear hup);have hup:=bup hB;clear hb;have c0:u1.cell? ⟨g5,5,none⟩=some (.slice C.A n C.c):=hg5.cell 5;have f0:=hg5.free 5;refine wW ?_;clear hs hd zl;intro a hs hd zl;refine ts hs hd zl ?_;clear hs hd zl;intro a hs hd zl;have hGB:=gb1 u1 g5 5 (.slice (some ⟨g,0,none⟩) n c');have hg51:Blk _ g5 41 (icAt C g n c'):=hg5.set_ 5 (.slice (some ⟨g,0,none⟩) n c');have hSB1:SgB _ g C.S rest:=Blk.gbT hSB hg5 (by decide) hGB;have hg81:=hg8.gbfar hGB (fun e=>h85 e.symm);replace hB:Below w.heap.size w (u1.setCell ⟨g5,5,none⟩ (.slice (some ⟨g,0,none⟩) n c')):=hB.setCell (p:=⟨g5,5,none⟩) hge5 _;clear hGB;generalize u1.setCell ⟨g5,5,none⟩ (.slice (some ⟨g,0,none⟩) n c')=u at hg51 hSB1 hg81 hB⊢;clear hup c0 f0 hg5 hSB hg8 h85 hge;have hup:=bup hB;have c0:u.cell? ⟨g5,5,none⟩=some (.slice (some ⟨g,0,none⟩) n c'):=hg51.cell 5;refine wW ?_;clear hs hd zl;intro a hs hd zl;clear c0;have hfar:SgFar C.S (g::g8::gs) u:=fun t ht=>⟨(hsg t ht).1.after hB,fun b hb e=>by
  have:=(hsg t ht).1.blk b hb;have:=HGW.out;rcases List.mem_cons.1 e with e|e
  ·omega
  ·rcases List.mem_cons.1 e with e|e
   ·omega
   ·exact(hsg t ht).2 b hb e⟩
 have hne5:g5≠g:=fun e=>by
  subst e;have:=hSB1;unfold SgB Blk at this;unfold Blk at hg51;rw[hg51]at this;injection this with h1;injection h1 with _ h1;exact absurd h1 (by decide)
 have hne8:g8≠g:=fun e=>by
  subst e;have:=hSB1;unfold SgB Blk at this;unfold Blk at hg81;rw[hg81]at this;injection this with h1;injection h1 with _ h1;exact absurd h1 (by decide)
 refine wp_loop (fun a u=>∃(k:Nat) (T:List Sg),SzIs a 65∧DfNil a∧LiveAll [(0,.string ch),(2,.slice (some ⟨b2,o2,none⟩) n c2),(3,.slice none 0 0),(5,.pointer (some ⟨g5,0,none⟩)),(8,.pointer (some ⟨g8,0,none⟩)),(17,.int .i64 ((n:Nat):Int)),(18,.int .i64 ((k:Nat):Int))] a∧k≤n∧Below w.heap.size w u∧Blk u g5 41 (icAt C g n c')∧(∃cs,cs.size=6∧Blk u g8 41 cs)∧SgB u g T rest∧RsL C ch L k T∧SgFar T (g::g8::gs) u)
  (fun a _=>n-(intOf (a.tmps.getD 18 undef)).toNat) ⟨0,C.S,hs,hd,ks zl,Nat.zero_le _,hB,hg51,⟨_,by rfl,hg81⟩,hSB1,RsL.zero C ch L,hfar⟩ ?_
 clear hs hd zl hB hup hg51 hg81 hSB1 hfar u;rintro a u ⟨k,T,hs,hd,zl,hk,hB,hg5,⟨cs8,hz8,hg8⟩,hSB,hT,hfar⟩;have hup:=bup hB;have hm:(intOf (a.tmps.getD 18 undef)).toNat=k:=by rw[sl zl 18];simp[intOf]
 rw[hm];clear hm;have hTn:T.length=n:=by rw[hT.len,HLN.out]
 have HTN:=Is.hid hTn;clear hTn;by_cases hlt:k<n
 ·have e1:decide (k<n)=true:=decide_eq_true hlt;have ew:IntKind.i64.wrap ((k:Int)+1)=((k+1:Nat):Int):=by rw[IntWalk.i64_in _ (by omega)];omega
  obtain⟨t,hTk⟩:∃t,T[k]?=some t:=⟨T[k]'(by rw[HTN.out];exact hlt),List.getElem?_eq_getElem _⟩;obtain⟨v,hLk⟩:∃v,L[k]?=some v:=⟨L[k]'(by rw[hN.out];exact hlt),List.getElem?_eq_getElem _⟩;have hvk:=(hG.get hLk).k;have c0:u.cell? ⟨g5,5,none⟩=some (.slice (some ⟨g,0,none⟩) n c'):=hg5.cell 5;have c1:u.cell? ⟨g,k*5,none⟩=some (.int .i64 t.fl):=hSB.cell hTk (j:=0) rfl;have e2:decide (n≤k)=false:=decide_eq_false (by omega);have e2':decide ((n:Int)≤(k:Int))=false:=decide_eq_false (by omega);have HTK:=Is.hid hTk;have HLK:=Is.hid hLk;clear hTk hLk;by_cases hf:t.fl=1
  ·have e3:decide (t.fl=1)=true:=decide_eq_true hf;have e3':(t.fl == 1)=true:=by rw[hf];rfl
   have HF:=Is.hid hf;clear hf;refine wW ?_;clear hs hd zl;intro a hs hd zl;refine wp_exit ?_;(repeat refine then_exit ?_);refine inBlock_exit ?_;refine wW ?_;clear hs hd zl;intro a hs hd zl;refine⟨⟨k+1,T,hs,hd,ks zl,hlt,hB,hg5,⟨cs8,hz8,hg8⟩,hSB,hT.keep HTK.out HF.out,hfar⟩,?_⟩;rw[sl zl 18];simp[intOf];omega
  ·have e3:decide (t.fl=1)=false:=decide_eq_false hf;have e3':(t.fl == 1)=false:=by simpa using hf
   have HF:=Is.hid hf;have e4:decide ((k:Int)<0)=false:=decide_eq_false (by omega);have d2:w.cell? ⟨b2,o2+k*4+1,none⟩=some (.string v.k):=hcs2 k v HLK.out 1 _ rfl;have l5:=hg5.lt;clear hf;refine wW ?_;clear hs hd zl;intro a hs hd zl;clear e3 e3' c1 d2 e2 e2' e1;have hum:∃s,C.S[k]?=some s∧t=s:=⟨t,by rw[← hT.todo k (Nat.le_refl _)];exact HTK.out,rfl⟩;have htm:Tm0 t.sec t.ns:=by
    obtain⟨s,h1,rfl⟩:=hum;exact hTm _ (List.mem_of_getElem? h1) HF.out
   clear hum;have hml:=msgL_ok (t.fl == 2) C.ht C.rd C.b.l C.bt C.bp.l t.sec t.ns ch hCb.b8 hCp.b8 hbl hcn.bt.2 hpl htm.sec htm.ns hch;replace zl:=kp [0,2,3,5,8,9,10,17,18] zl;have hcm:∀u1,Below u.heap.size u u1→Calls Tryz.prog 39 #[.agg (icAt C g n c')] u1 fun e w'=>∃v,e=.returned v∧CmR C T n v w'∧Below u1.heap.size u1 w':=fun u1 hb1=>by
    have h:=c_commit ⟨C.ht,C.rd,C.b,C.bt,C.bp,some ⟨g,0,none⟩,c',T⟩ u1 (hSB.rows.after hb1) (by rw[HTN.out];omega);simp only[Ic.cells]at h;rw[HTN.out]at h;exact h.mono fun e w' ⟨A1,c1,h1,h2,h3⟩=>⟨_,h1,⟨A1,c1,rfl,h2.rows⟩,h3⟩
   have hms:∀u1 x,Below u.heap.size u u1→CmR C T n x u1→Calls Tryz.prog 38 #[.string ch,x,.int .i64 (k:Int)] u1 fun e w'=>∃v,e=.returned v∧BsAt u.heap.size (msgL (t.fl == 2) C.ht C.rd C.b.l C.bt C.bp.l t.sec t.ns ch) v w'∧Below u1.heap.size u1 w':=fun u1 x hb1 hx=>by
    obtain⟨A1,c1,rfl,hr⟩:=hx;have h:=c_Message ⟨C.ht,C.rd,C.b,C.bt,C.bp,A1,c1,T⟩ t k _ ch u1 ((hCb.after hB).after hb1) ((hCp.after hB).after hb1) hr HTK.out rfl (by omega) ⟨hcn.ht,hcn.rd,hcn.bt,hcn.b⟩ htm (by omega);simp only[Ic.cells]at h;rw[HTN.out]at h;exact h.mono fun e w' ⟨v,h1,h2,h3⟩=>⟨v,h1,h2.less hb1.size,h3⟩
   have hsd:∀u1 x,Below u.heap.size u u1→BsAt u.heap.size (msgL (t.fl == 2) C.ht C.rd C.b.l C.bt C.bp.l t.sec t.ns ch) x u1→Calls Tryz.prog 37 #[.string v.k,x] u1 fun e w'=>∃v',e=.returned v'∧BsAt u.heap.size (psL (bytesOf v.k) (msgL (t.fl == 2) C.ht C.rd C.b.l C.bt C.bp.l t.sec t.ns ch)) v' w'∧Below u1.heap.size u1 w':=fun u1 x hb1 hx=>by
    obtain⟨m,rfl,hm,hml'⟩:=hx.sl hml.1 hml.2;rw[← hml'.out];exact(c_iSigned v.k m u1 (by omega) hm ((hKt.after hB).after hb1) (Nat.lt_of_lt_of_le h0 (Nat.le_trans hB.size hb1.size))).mono fun e w' ⟨v,h1,h2,h3⟩=>⟨v,h1,h2.less hb1.size,h3⟩
   change Code.wp _ _ _ _ _;refine fxs [.inl (51,_),.inl (52,_),.inl (53,_),.inl (54,_),.inl (55,_),.inl (56,.agg (icAt C g n c')),.inr (.px 57 (CmR C T n) (CmR.keeps C T n)),.inl (58,_),.inr (.bs 59 u.heap.size (msgL (t.fl == 2) C.ht C.rd C.b.l C.bt C.bp.l t.sec t.ns ch)),.inr (.bs 60 u.heap.size (psL (bytesOf v.k) (msgL (t.fl == 2) C.ht C.rd C.b.l C.bt C.bp.l t.sec t.ns ch))),.inl (61,_),.inl (62,_)] 12 hs hd zl
    (by
     simp only[List.map_cons,List.map_nil,itS]
     (repeat' first|exact trivial|refine And.intro (sP bo) ?_|refine And.intro (sP (bk (v:=.agg (icAt C g n c')) (fun a u1 hb zl hd K Q hK=>op_load_row 41 (.tmp 5) rfl g5 (sl zl 5) _ (icAt C g n c') _ (hg5.after hb) rfl rfl (by kernel_rfl) hK))) ?_|refine And.intro (sP (bcx (fun a w v hs=>px_put hs (by decide)) hcm)) ?_|refine And.intro (sP (bcy (t:=57) (fun a w hd=>FItem.px_holds.1 (dep_get0 hd 6 (by kernel_rfl))) (fun a w v hs=>bs_put hs (by decide)) hms)) ?_|refine And.intro (sP (bcy (t:=59) (fun a w hd=>FItem.bs_holds.1 (dep_get0 hd 8 (by kernel_rfl))) (fun a w v hs=>bs_put hs (by decide)) hsd)) ?_)) ?_
   clear hcm hms hsd;intro a u1 hb hs hd zl hh;obtain⟨-,-,h60,-⟩:=hh;obtain⟨x,e60,hx,hxl,hxb⟩:=(FItem.bs_holds.1 h60).sl2 (psL_ok _ _).1 (psL_ok _ _).2;replace zl:=kp [0,2,3,5,8,17,18,62] zl;replace zl:LiveAll ((60,x.v)::_) a:=⟨e60,zl⟩;have hgu:g<u.heap.size:=Blk.lt hSB;have hgu8:=hg8.lt;have hsz:=hB.size;replace hg5:=hg5.after hb;replace hg8:=hg8.after hb;replace hSB:SgB u1 g T rest:=Blk.after hSB hb;replace hfar:=hfar.after hb;clear h60 e60 c0 l5;replace hB:=bz_then hB hb;(try clear hup);have hup:=bup hB;clear hb;have c4:u1.cell? ⟨g,k*5+4,none⟩=some t.sg.v:=hSB.cell HTK.out (j:=4) rfl;have f4:=Blk.free hSB (k*5+4)
   (repeat first|refine wp_seq ?_|refine wp_block ?_|refine wp_region_list ?_|(refine tx hs hd zl ?_;clear hs hd zl;intro a hs hd zl)|(refine tn hs hd zl ?_;clear hs hd zl;intro a hs hd zl)|refine ct zl ?_|refine cf zl ?_|refine wp_skip ?_)
   unfold HSl.v at zl;refine ts (u:=x.v) hs hd zl ?_;clear hs hd zl;intro a hs hd zl;have hGB:=gb1 u1 g (k*5+4) x.v;have hSB2:SgB (u1.setCell ⟨g,k*5+4,none⟩ x.v) g (T.set k {t with sg:=x}) rest:=by
    unfold SgB;rw[← SgBl_sig T rest k t x HTK.out];exact Blk.set_ hSB _ _
   have hg52:=hg5.gbfar hGB (fun e=>hne5 e.symm);have hg82:=hg8.gbfar hGB (fun e=>hne8 e.symm);have hT2:=hT.next HTK.out HLK.out (fun _=>hxl.out) HF.out;have hfar2:=(hfar.gb (List.mem_cons_self ..) hGB).set k (t:={t with sg:=x}) ⟨hx.gb hGB (fun b hb e=>by have:=hxb b hb;omega),fun b hb e=>by
    have:=hxb b hb;rcases List.mem_cons.1 e with e|e
    ·omega
    ·rcases List.mem_cons.1 e with e|e
     ·omega
     ·have:=hgs b e;omega⟩
   have hB2:Below w.heap.size w (u1.setCell ⟨g,k*5+4,none⟩ x.v):=hB.setCell (p:=⟨g,k*5+4,none⟩) HGW.out _;clear hGB;generalize u1.setCell ⟨g,k*5+4,none⟩ x.v=u2 at hSB2 hg52 hg82 hfar2 hB2⊢;clear hB hg5 hg8 hSB hfar hup c4 f4 hT hx hxb;refine wW ?_;clear hs hd zl;intro a hs hd zl;refine⟨⟨k+1,_,hs,hd,ks zl,hlt,hB2,hg52,⟨cs8,hz8,hg82⟩,hSB2,hT2,hfar2⟩,?_⟩;rw[sl zl 18];simp[intOf];omega
 ·obtain rfl:k=n:=by omega
  have e1:decide (k<k)=false:=decide_eq_false (by omega);refine wW ?_;clear hs hd zl;intro a hs hd zl;refine wp_exit ?_;(repeat refine then_exit ?_);refine inBlock_exit ?_
  (repeat first|refine wp_seq ?_|refine wp_block ?_|refine wp_region_list ?_|(refine tx hs hd zl ?_;clear hs hd zl;intro a hs hd zl)|(refine tn hs hd zl ?_;clear hs hd zl;intro a hs hd zl)|refine ct zl ?_|refine cf zl ?_|refine wp_skip ?_)
  refine tk hs hd zl (fun K Q hK=>op_load_row 41 (.tmp 5) rfl g5 (sl zl 5) _ (icAt C g k c') _ hg5 rfl rfl (by kernel_rfl) hK) ?_;clear hs hd zl;intro a hs hd zl;refine tsr (g:=g8) (cs:=icAt C g k c') hs hd zl hg8 ?_ ?_ (hcur:=by rw[hz8];rfl)
  ·intro v hv;simp only[icAt,icCells,HSl.v,List.mem_cons,List.not_mem_nil,or_false]at hv;rcases hv with rfl|rfl|rfl|rfl|rfl|rfl <;> rfl
  intro hg82;clear hs hd zl;intro a hs hd zl;have hGB:=gb_setRow u g8 (icAt C g k c');have hSB2:SgB _ g T rest:=Blk.gbfar hSB hGB hne8;have hfar2:=(hfar.gb (g:=g8) (by simp) hGB).less (gs':=g::gs) (fun x hx=>by
   rcases List.mem_cons.1 hx with rfl|hx
   ·exact List.mem_cons_self ..
   ·exact List.mem_cons_of_mem _ (List.mem_cons_of_mem _ hx))
  have hB2:Below w.heap.size w (u.setRow g8 (icAt C g k c')):=below_setRow hB HG8 _;generalize u.setRow g8 (icAt C g k c')=u2 at hg82 hSB2 hfar2 hB2⊢
  (repeat first|refine wp_seq ?_|refine wp_block ?_|refine wp_region_list ?_|(refine tx hs hd zl ?_;clear hs hd zl;intro a hs hd zl)|(refine tn hs hd zl ?_;clear hs hd zl;intro a hs hd zl)|refine ct zl ?_|refine cf zl ?_|refine wp_skip ?_)
  refine wp_ret ?_;(repeat first|refine then_ret ?_|refine inBlock_ret ?_);exact end_row rfl g8 (sl zl 8) hd.out 41 _ _ hg82 Tryz.underlying41 rfl (by kernel_rfl) ⟨T,g,c',rest,rfl,HGW.out,hSB2,hcap,hT,hfar2,hB2⟩
def iRows(F:List Int):List (List Value):=F.map fun x=>[.int .i64 x]
theorem iRows_get{F:List Int}{i:Nat}{x:Int}(h:F[i]?=some x):(iRows F)[i]?=some [.int .i64 x]:=by unfold iRows;rw[List.getElem?_map,h];rfl
theorem ints_at{w:World}{A:Option Addr}{F:List Int}(h:RowsAt w A 1 (iRows F)){k:Nat}(hk:k<F.length):∃b o,A=some ⟨b,o,none⟩∧b<w.heap.size∧w.cell? ⟨b,o+k,none⟩=some (.int .i64 F[k]):=by
 obtain⟨_,b,o,e,hb,hc⟩:=h k _ (iRows_get (List.getElem?_eq_getElem hk));exact⟨b,o,e,hb,by have:=hc 0 _ rfl;simpa using this⟩
structure Sn0(sec:Int)(nof:Prop)(v:Seat)(i:Nat)(s:Sg):Prop where
 fl:s.fl=1∨s.fl=2∨s.fl=3
 one:s.fl=1→s.ad=⟨#[]⟩∧s.sec= -62135596800
 two:s.fl≠1→s.ad=v.a∧s.sec=sec+i
 ns:s.ns=0
 sg:s.sg=HSl.nil
 nf:nof→s.fl=2
structure Sn0s(sec:Int)(nof:Prop)(L:List Seat)(S:List Sg):Prop where
 len:S.length=L.length
 of_:∀(i:Nat) v s,L[i]?=some v→S[i]?=some s→Sn0 sec nof v i s
theorem Sn0s.snoc{sec:Int}{nof:Prop}{L:List Seat}{S:List Sg}{k:Nat}{v:Seat}{s:Sg}(h:Sn0s sec nof (L.take k) S)(hk:L[k]?=some v)(hs:Sn0 sec nof v k s):Sn0s sec nof (L.take (k+1)) (S++[s]):=by
 have hkl:k<L.length:=(List.getElem?_eq_some_iff.1 hk).1;have hl:S.length=k:=by rw[h.len,List.length_take];omega
 refine⟨by rw[List.length_append,hl,List.length_take];simp;omega,fun i v' s' h1 h2=>?_⟩;rcases Nat.lt_or_ge i k with hi|hi
 ·rw[List.getElem?_append_left (by omega)]at h2;rw[List.getElem?_take_of_lt (by omega)]at h1;exact h.of_ i v' s' (by rw[List.getElem?_take_of_lt hi];exact h1) h2
 ·have h3:=(List.getElem?_eq_some_iff.1 h2).1;rw[List.length_append,hl]at h3;obtain rfl:i=k:=by simp at h3;omega
  rw[List.getElem?_take_of_lt (by omega),hk]at h1;rw[List.getElem?_append_right (by omega),hl,Nat.sub_self]at h2;injection h1 with h1;injection h2 with h2;subst h1 h2;exact hs
def BnV(l:List Int)(v:Value)(w:World):Prop:=∃b r:HSl,v=.agg #[b.v,.int .i64 1,r.v]∧b.ok w∧r.ok w∧Is b.l l∧Is r.l (sha [])
def BnC(ht:Int)(l:List Int)(v:Value)(w:World):Prop:=∃b r:HSl,v=.agg (icCells ht 0 b 1 r none 0 0)∧b.ok w∧r.ok w∧Is b.l l∧Is r.l (sha [])
theorem BnV.keeps(l:List Int):∀v (w w':World),Below w.heap.size w w'→BnV l v w→BnV l v w':=fun _ _ _ hb ⟨b,r,h1,h2,h3,h4⟩=>⟨b,r,h1,h2.after hb,h3.after hb,h4⟩
theorem BnC.keeps(ht:Int)(l:List Int):∀v (w w':World),Below w.heap.size w w'→BnC ht l v w→BnC ht l v w':=fun _ _ _ hb ⟨b,r,h1,h2,h3,h4⟩=>⟨b,r,h1,h2.after hb,h3.after hb,h4⟩
def flg(F:List Int)(k:Nat):Int:=if k<F.length∧bel (F.getD k 0) 5<2 then 1+2*bel (F.getD k 0) 5 else 2
theorem flg_of(F:List Int)(k:Nat):flg F k=1∨flg F k=2∨flg F k=3:=by
 unfold flg;have:=bel_range (F.getD k 0) 5 (by decide);split <;> omega
theorem flg_nil(k:Nat):flg [] k=2:=by simp[flg]
theorem ic_noU8(ht rd:Int)(b:HSl)(bt:Int)(r:HSl)(A:Option Addr)(n c:Nat):NoU8 (icCells ht rd b bt r A n c):=by
 intro i x h;unfold icCells HSl.v at h;rcases(by omega:i=0∨i=1∨i=2∨i=3∨i=4∨i=5∨6≤i)with rfl|rfl|rfl|rfl|rfl|rfl|hi;all_goals first|(simp at h;done)|(rw[Array.getElem?_eq_none (by simpa using hi)]at h;cases h)
theorem sha_len(m:List Int):(sha m).length=32:=rfl
theorem HSl.ok.gbo{s:HSl}{w w':World}{o:Option Nat}(h:s.ok w)(hg:w.grownBy w' o)(hn:∀k,blkOf s.A=some k→some k≠o):s.ok w':=by
 cases o with
 |none=>exact h.after ⟨hg.os,hg.tape,hg.output,hg.size,fun k hk=>hg.block k hk (by simp)⟩
 |some g=>exact h.gb hg (fun k hk e=>hn k hk (by rw[e]))
structure Lw(H:Hd)(b r:HSl)(g4 g8 g9 z:Nat)(B:Option Addr)(d:Nat)(S:List Sg)(w u:World):Prop where
 below:Below w.heap.size w u
 size:z≤u.heap.size
 h4:Blk u g4 37 H.cells
 h8:∃cs:Array Value,cs.size=6∧Blk u g8 41 cs
 h9:Blk u g9 41 (icCells H.ht 0 b 1 r B S.length d)
 own:OwnR 59 5 z u B d (sgRows S)
 bo:b.ok u
 ro:r.ok u
theorem Lw.after{H:Hd}{b r:HSl}{g4 g8 g9 z:Nat}{B:Option Addr}{d:Nat}{S:List Sg}{w u u':World}(h:Lw H b r g4 g8 g9 z B d S w u)(hb:Below u.heap.size u u'):Lw H b r g4 g8 g9 z B d S w u':=
 ⟨bz_then h.below hb,Nat.le_trans h.size hb.size,h.h4.after hb,by obtain⟨cs,h1,h2⟩:=h.h8;exact⟨cs,h1,h2.after hb⟩,h.h9.after hb,h.own.after hb,h.bo.after hb,h.ro.after hb⟩
theorem Lw.app{H:Hd}{b r:HSl}{g4 g8 g9 z:Nat}{B B1:Option Addr}{d d1:Nat}{S:List Sg}{x:Sg}{w u u1:World}(h:Lw H b r g4 g8 g9 z B d S w u)(hown:OwnR 59 5 z u1 B1 d1 (sgRows (S++[x])))(hb:Below z u u1)(hgb:u.grownBy u1 (blkOf B))
  (hz:w.heap.size≤z)(h9:w.heap.size≤g9)(h89:g8≠g9)(hbf:∀k,blkOf b.A=some k→k<z∧k≠g9)(hrf:∀k,blkOf r.A=some k→k<z∧k≠g9):
  Lw H b r g4 g8 g9 z B1 d1 (S++[x]) w (u1.setCell ⟨g9,5,none⟩ (.slice B1 (S.length+1) d1)):=by
 obtain⟨cs,h81,h82⟩:=h.h8;have n4:=h.own.ne h.h4 (by decide);have n8:=h.own.ne h82 (by decide);have n9:=h.own.ne h.h9 (by decide);have k4:Blk u1 g4 _ _:=gb_blk hgb h.h4 (fun e=>n4 e.symm);have k8:Blk u1 g8 _ _:=gb_blk hgb h82 (fun e=>n8 e.symm);have k9:Blk u1 g9 _ _:=gb_blk hgb h.h9 (fun e=>n9 e.symm);have hGB:=gb1 u1 g9 5 (.slice B1 (S.length+1) d1);have hfar:∀{s:HSl},s.ok u→(∀k,blkOf s.A=some k→k<z∧k≠g9)→s.ok (u1.setCell ⟨g9,5,none⟩ (.slice B1 (S.length+1) d1)):=fun hs hf=>by
  refine(hs.gbo hgb (fun k hk e=>?_)).gb hGB (fun k hk=>(hf k hk).2);have:=(hf k hk).1;rcases h.own.form with⟨h1,-,-⟩|⟨y,cur,h1,h2,-⟩
  ·rw[h1]at e
   cases e
  ·rw[h1]at e;injection e with e;have e:k=y:=e;omega
 refine⟨(h.below.trans (hb.mono hz)).setCell (p:=⟨g9,5,none⟩) h9 _,?_,k4.gbT k9 (by decide) hGB,⟨cs,h81,k8.gbfar hGB (fun e=>h89 e.symm)⟩,?_,OwnR.setCell hown k9 (by decide),hfar h.bo hbf,hfar h.ro hrf⟩
 ·exact Nat.le_trans h.size (Nat.le_trans hb.size hGB.size)
 ·have e2:(S++[x]).length=S.length+1:=by simp
  rw[e2];exact k9.set_ 5 _
theorem c_sgl(H:Hd)(L:List Seat)(F:List Int)(A2 A3:Option Addr)(c2 c3:Nat)(w:World)(hn:H.num)(hH:H.ok w)(hne:(((H.hh 2).l.length:Int) == 0)=false)(hL:SeatsAt w A2 L)(hG:Good L)(hn0:0<L.length)(hn20:L.length≤20)(hF:RowsAt w A3 1 (iRows F))(hFi:∀x∈F,-9223372036854775808≤x∧x≤9223372036854775807)(hFn:F.length≤2147483647)(hch:H.ch.size≤1000)(hKt:KTab w 1)(h0:1<w.heap.size):
  Calls Tryz.prog 8 #[.agg H.cells,.slice A2 L.length c2,.slice A3 F.length c3,.slice none 0 0] w fun e w'=>∃(C:Ic) (T:List Sg) (g c:Nat) (rest:List Value),e=.returned (.agg (icAt C g L.length c))∧w.heap.size≤g∧SgB w' g T rest∧L.length≤c∧C.ht=H.ht∧C.rd=0∧C.bt=1∧C.b.l=rootN 20 H.leaves∧C.bp.l=sha []∧C.b.ok w'∧C.bp.ok w'∧(∀k,blkOf C.b.A=some k→k≠g)∧(∀k,blkOf C.bp.A=some k→k≠g)∧Sn0s H.sec (F=[]) L C.S∧RsL C H.ch L L.length T∧SgFar T [g] w'∧Below w.heap.size w w':=by
 obtain⟨n,hN⟩:∃n,Is L.length n:=is_self _;obtain⟨m,hM⟩:∃m,Is F.length m:=is_self _;obtain⟨b2,o2,rfl,hb2,hcs2⟩:=hL.at_ hn0;rw[hN.out]at hn0 hn20⊢;rw[hM.out]at hFn⊢;refine en (sz:=78) rfl rfl rfl fun a hs hd zl=>?_;have hB:=bz_refl w
 refine wp_seq (wp_region_list ?_);refine ta (cs:=H.cells) hs hd zl ?_;intro g4 u hg4 hge4 hb;clear hs hd zl;intro a hs hd zl;replace hB:=bz_then hB hb;(try clear hup);have hup:=bup hB;clear hb;refine ta hs hd zl ?_;intro g8 u hg8 hge8 hb;clear hs hd zl;intro a hs hd zl;have HG8:=Nat.le_trans hB.size hge8;have h84:g8≠g4:=by have:=hg4.lt;omega
 replace hg4:=hg4.after hb;replace hB:=bz_then hB hb;(try clear hup);have hup:=bup hB;clear hb;have d3:u.cell? ⟨g4,3,none⟩=some (.int .i64 H.ht):=hg4.cell 3;have l4:=hg4.lt
 (repeat first|refine wp_seq ?_|refine wp_block ?_|refine wp_region_list ?_|(refine tx hs hd zl ?_;clear hs hd zl;intro a hs hd zl)|(refine tn hs hd zl ?_;clear hs hd zl;intro a hs hd zl)|refine ct zl ?_|refine cf zl ?_|refine wp_skip ?_)
 change Code.wp _ _ _ _ _;have hhs:∀u1,Below u.heap.size u u1→Calls Tryz.prog 27 #[.agg H.cells] u1 fun e w'=>∃v,e=.returned v∧BsAt u.heap.size (rootN 20 H.leaves) v w'∧Below u1.heap.size u1 w':=fun u1 hb1=>
  (c_HeaderSum H u1 hn ((hH.after hB).after hb1) hne).mono fun e w' ⟨v,h1,h2,h3⟩=>⟨v,h1,h2.less hb1.size,h3⟩
 have hsm:∀u1,Below u.heap.size u u1→Calls Tryz.prog 23 #[.slice none 0 0] u1 fun e w'=>∃v,e=.returned v∧BsAt u.heap.size (sha []) v w'∧Below u1.heap.size u1 w':=fun u1 hb1=>
  (c_specSum none 0 [] u1 (Bs.nil _ _) (fun x hx=>by cases hx) (by decide)).mono fun e w' h=>h.read.at_ hb1.size
 refine fxs [.inl (13,_),.inl (14,_),.inl (15,.agg H.cells),.inl (16,.agg H.cells),.inr (.bs 17 u.heap.size (rootN 20 H.leaves)),.inr (.bs 18 u.heap.size (sha [])),.inr (.px 19 (BnV (rootN 20 H.leaves)) (BnV.keeps _)),.inr (.px 20 (BnC H.ht (rootN 20 H.leaves)) (BnC.keeps _ _)),.inr (.pb 9 u.heap.size 41 _)] 9 hs hd zl
  (by
   simp only[List.map_cons,List.map_nil,itS]
   (repeat' first|exact trivial|refine And.intro (sP bo) ?_|refine And.intro (sP (bk (v:=.agg H.cells) (fun a u1 hb zl hd K Q hK=>op_load_row 37 (.tmp 4) rfl g4 (sl zl 4) _ H.cells _ (hg4.after hb) rfl rfl (by kernel_rfl) hK))) ?_|refine And.intro (sP (bc (v:=.agg H.cells) (fun u1 hb1=>c_lheader H u1))) ?_|refine And.intro (sP (bcx (fun a w v hs=>bs_put hs (by decide)) hhs)) ?_|refine And.intro (sP (bcx (fun a w v hs=>bs_put hs (by decide)) hsm)) ?_|refine And.intro (sP (ba (Nat.le_refl _))) ?_|refine And.intro (sP (fun a u hb hs zl hd K hK=>by(obtain⟨b,e17,hb1,hbl⟩:=(FItem.bs_holds.1 (dep_get0 hd 4 (by kernel_rfl))).sl (rootN_bytes _ _) (by rw[rootN_len];omega);obtain⟨r,e18,hr1,hrl⟩:=(FItem.bs_holds.1 (dep_get0 hd 5 (by kernel_rfl))).sl (sha_bytes _) (by rw[sha_len];omega);have q17:=gd e17;have q18:=gd e18;unfold HSl.v at q17 q18;clear hd;go_simp;exact hK _ _ (Below.refl _ _) (px_put hs (by decide) ⟨b,r,rfl,hb1,hr1,hbl,hrl⟩)))) ?_|refine And.intro (sP (fun a u hb hs zl hd K hK=>by(obtain⟨b,r,e19,hb1,hr1,hbl,hrl⟩:=FItem.px_holds.1 (dep_get0 hd 6 (by kernel_rfl));have q14:=gD hd 1;have q19:=gd e19;unfold HSl.v at q19;clear hd;go_simp;exact hK _ _ (Below.refl _ _) (px_put hs (by decide) ⟨b,r,rfl,hb1,hr1,hbl,hrl⟩)))) ?_)) ?_
 clear hhs hsm;intro a u1 hb hs hd zl hh;obtain⟨-,-,-,h20,h9,-⟩:=hh;obtain⟨b,r,e20,hbo,hro,hbl,hrl⟩:=FItem.px_holds.1 h20;obtain⟨g9,e9,hg9,hg9e⟩:=FItem.pb_holds.1 h9;replace zl:=kp [1,2,3,4,8] zl;replace zl:LiveAll ((20,_)::(9,_)::_) a:=⟨e20,e9,zl⟩;have HG9:=Nat.le_trans hB.size hg9e;have h89:g8≠g9:=by have:=hg8.lt;omega
 have h49:g4≠g9:=by have:=hg4.lt;omega
 replace hg4:=hg4.after hb;replace hg8:=hg8.after hb;clear h20 h9 e20 e9 d3 l4 hg9e;replace hB:=bz_then hB hb;(try clear hup);have hup:=bup hB;clear hb;refine tsr (g:=g9) (cs:=icCells H.ht 0 b 1 r none 0 0) hs hd zl hg9 ?_ ?_
 ·intro v hv;simp only[icCells,HSl.v,List.mem_cons,List.not_mem_nil,or_false]at hv;rcases hv with rfl|rfl|rfl|rfl|rfl|rfl <;> rfl
 intro hg92;clear hs hd zl;intro a hs hd zl;have hGB:=gb_setRow u1 g9 (icCells H.ht 0 b 1 r none 0 0);have hbn:=not_u8 hbo (by rw[hbl.out,rootN_len];decide) hg9 (ic_noU8 0 0 HSl.nil 0 HSl.nil none 0 0);have hrn:=not_u8 hro (by rw[hrl.out,sha_len];decide) hg9 (ic_noU8 0 0 HSl.nil 0 HSl.nil none 0 0);have hb8:=not_u8 hbo (by rw[hbl.out,rootN_len];decide) hg8 (ic_noU8 0 0 HSl.nil 0 HSl.nil none 0 0);have hr8:=not_u8 hro (by rw[hrl.out,sha_len];decide) hg8 (ic_noU8 0 0 HSl.nil 0 HSl.nil none 0 0);have hlw:Lw H b r g4 g8 g9 (u1.setRow g9 (icCells H.ht 0 b 1 r none 0 0)).heap.size none 0 [] w (u1.setRow g9 (icCells H.ht 0 b 1 r none 0 0)):=⟨below_setRow hB HG9 _,Nat.le_refl _,hg4.gbfar hGB (fun e=>h49 e.symm),⟨_,by rfl,hg8.gbfar hGB (fun e=>h89 e.symm)⟩,hg92,OwnR.nil _ _ _ _,hbo.gb hGB hbn,hro.gb hGB hrn⟩;have hbf:∀k,blkOf b.A=some k→k<(u1.setRow g9 (icCells H.ht 0 b 1 r none 0 0)).heap.size∧k≠g9:=fun k hk=>⟨hlw.bo.blk k hk,hbn k hk⟩
 have hrf:∀k,blkOf r.A=some k→k<(u1.setRow g9 (icCells H.ht 0 b 1 r none 0 0)).heap.size∧k≠g9:=fun k hk=>⟨hlw.ro.blk k hk,hrn k hk⟩
 have hzw:w.heap.size≤(u1.setRow g9 (icCells H.ht 0 b 1 r none 0 0)).heap.size:=hlw.below.size;clear hGB hbn hrn hg4 hg8 hg9 hg92 hbo hro hB hup h84 h49;generalize u1.setRow g9 (icCells H.ht 0 b 1 r none 0 0)=u at hlw hbf hrf hzw⊢;refine wW ?_;clear hs hd zl;intro a hs hd zl;obtain⟨z,hz⟩:∃z,u.heap.size=z:=⟨_,rfl⟩;rw[hz]at hlw hbf hrf hzw;clear hz;refine wp_loop (fun a u=>∃(k:Nat) (S:List Sg) (B:Option Addr) (d:Nat),SzIs a 78∧DfNil a∧LiveAll [(1,.slice (some ⟨b2,o2,none⟩) n c2),(2,.slice A3 m c3),(3,.slice none 0 0),(4,.pointer (some ⟨g4,0,none⟩)),(8,.pointer (some ⟨g8,0,none⟩)),(9,.pointer (some ⟨g9,0,none⟩)),(21,.slice (some ⟨b2,o2,none⟩) n c2),(22,.int .i64 ((n:Nat):Int)),(23,.int .i64 ((k:Nat):Int))] a∧k≤n∧Sn0s H.sec (F=[]) (L.take k) S∧Lw H b r g4 g8 g9 z B d S w u)
  (fun a _=>n-(intOf (a.tmps.getD 23 undef)).toNat) ⟨0,[],none,0,hs,hd,ks zl,Nat.zero_le _,⟨rfl,fun i v s h=>by simp at h⟩,hlw⟩ ?_
 clear hs hd zl hlw u;rintro a u ⟨k,S,B,d,hs,hd,zl,hk,hS,hlw⟩;have hB:=hlw.below;have hup:=bup hB;have hm:(intOf (a.tmps.getD 23 undef)).toNat=k:=by rw[sl zl 23];simp[intOf]
 rw[hm];clear hm;by_cases hlt:k<n
 ·have e1:decide (k<n)=true:=decide_eq_true hlt;have ew:IntKind.i64.wrap ((k:Int)+1)=((k+1:Nat):Int):=by rw[IntWalk.i64_in _ (by omega)];omega
  obtain⟨v,hLk⟩:∃v,L[k]?=some v:=⟨L[k]'(by rw[hN.out];exact hlt),List.getElem?_eq_getElem _⟩;have hck:=hcs2 k v hLk;have HLK:=Is.hid hLk;clear hLk;refine wW ?_;clear hs hd zl;intro a hs hd zl;refine tk hs hd zl (fun K Q hK=>op_load_cells 48 (.tmp 26) rfl b2 _ (sl zl 26) v.cells _ (fun j x hj=>by rw[hup _ hb2];exact hck j x hj) rfl rfl (by kernel_rfl) hK) ?_;clear hs hd zl;intro a hs hd zl;clear hck;refine ta hs hd zl ?_;intro g11 u1 hg11 hge hb;clear hs hd zl;intro a hs hd zl;refine wW ?_;clear hs hd zl;intro a hs hd zl;refine tsr (g:=g11) (cs:=v.cells.toArray) hs hd zl hg11 (seat_one v) ?_;intro hg;clear hs hd zl;intro a hs hd zl;have hb2':=below_setRow hb hge v.cells.toArray;generalize u1.setRow g11 v.cells.toArray=u2 at hg hb2'⊢;replace hlw:=hlw.after hb2';clear hup hB hb hg11 hge hb2' u1 u;have hB:=hlw.below;have hup:=bup hB;have hsl:S.length=k:=by rw[hS.len,List.length_take,hN.out];omega
  have HSL:=Is.hid hsl;clear hsl;replace zl:=kp [1,2,3,4,8,9,10,11,21,22,23] zl;change Code.wp _ _ _ _ _;refine wp_seq ?_;refine wp_region_list ?_;refine tx hs hd zl ?_;clear hs hd zl;intro a hs hd zl;change Code.wp _ _ _ _ _;refine wp_seq ?_;have hfl:=flg_of F k;have hfn:F=[]→flg F k=2:=fun h=>by rw[h];exact flg_nil k
  obtain⟨f,hf⟩:∃f,flg F k=f:=⟨_,rfl⟩;rw[hf]at hfl hfn;refine then_cut (fun a u=>u2=u∧SzIs a 78∧DfNil a∧LiveAll [(1,.slice (some ⟨b2,o2,none⟩) n c2),(2,.slice A3 m c3),(3,.slice none 0 0),(4,.pointer (some ⟨g4,0,none⟩)),(8,.pointer (some ⟨g8,0,none⟩)),(9,.pointer (some ⟨g9,0,none⟩)),(10,.int .i64 ((k:Nat):Int)),(11,.pointer (some ⟨g11,0,none⟩)),(12,.int .i64 f),(21,.slice (some ⟨b2,o2,none⟩) n c2),(22,.int .i64 ((n:Nat):Int)),(23,.int .i64 ((k:Nat):Int))] a) ?_ ?_
  ·unfold flg at hf;rw[hM.out]at hf;by_cases hkm:k<m
   ·have e2:decide (k<m)=true:=decide_eq_true hkm;obtain⟨b3,o3,rfl,hb3,hc3⟩:=ints_at hF (k:=k) (by rw[hM.out];exact hkm);rw[List.getD_eq_getElem?_getD,List.getElem?_eq_getElem (by rw[hM.out];exact hkm)]at hf;simp only[Option.getD_some]at hf;have hxi:=hFi _ (List.getElem_mem (by rw[hM.out];exact hkm:k<F.length));generalize F[k]'(by rw[hM.out];exact hkm)=x at hf hc3 hxi;have hbr:=bel_range x 5 (by decide);refine wW ?_;clear hs hd zl;intro a hs hd zl;refine tc (c_below x 5 u2 hxi (by decide)) hs hd zl ?_;rintro _ _ ⟨rfl,rfl⟩;refine⟨_,rfl,?_⟩;clear hs hd zl;intro a hs hd zl;by_cases hlt2:bel x 5<2
    ·have e3:decide (bel x 5<2)=true:=decide_eq_true hlt2;rw[if_pos ⟨hkm,hlt2⟩]at hf;have HF:=Is.hid hf;clear hf;have w1:IntKind.i64.wrap (2*bel x 5)=2*bel x 5:=IntWalk.i64_in _ (by omega);have w2:IntKind.i64.wrap (1+2*bel x 5)=1+2*bel x 5:=IntWalk.i64_in _ (by omega);refine wW ?_;clear hs hd zl;intro a hs hd zl;refine tc (c_below x 5 u2 hxi (by decide)) hs hd zl ?_;rintro _ _ ⟨rfl,rfl⟩;refine⟨_,rfl,?_⟩;clear hs hd zl;intro a hs hd zl;refine wW ?_;clear hs hd zl;intro a hs hd zl;rw[HF.out]at zl;exact⟨rfl,hs,hd,ks zl⟩
    ·have e3:decide (bel x 5<2)=false:=decide_eq_false hlt2;rw[if_neg (fun h=>hlt2 h.2)]at hf;subst hf;refine wW ?_;clear hs hd zl;intro a hs hd zl;exact⟨rfl,hs,hd,ks zl⟩
   ·have e2:decide (k<m)=false:=decide_eq_false hkm;rw[if_neg (fun h=>hkm h.1)]at hf;subst hf;refine wW ?_;clear hs hd zl;intro a hs hd zl;exact⟨rfl,hs,hd,ks zl⟩
  clear hs hd zl;rintro a _ ⟨rfl,hs,hd,zl⟩;have c5:u2.cell? ⟨g9,5,none⟩=some (.slice B S.length d):=hlw.h9.cell 5;have d4:u2.cell? ⟨g4,4,none⟩=some (.int .i64 H.sec):=hlw.h4.cell 4;have d0:u2.cell? ⟨g11,0,none⟩=some (.string v.a):=hg.cell 0;have l4:=hlw.h4.lt;by_cases hf1:f=1
  ·subst hf1;refine wW ?_;clear hs hd zl;intro a hs hd zl;refine tb (cs:=(⟨1,⟨#[]⟩,-62135596800,0,HSl.nil⟩:Sg).cells.toArray) hs hd zl ?_;intro gs u hgs hgse hb;clear hs hd zl;intro a hs hd zl;replace hlw:=hlw.after hb;clear c5 d4 d0 l4 hg hb;replace zl:=kp [1,2,3,4,8,9,21,22,23,50,53] zl;refine tw (fun v1 u1=>∃B1 d1,v1=.slice B1 (S++[(⟨1,⟨#[]⟩,-62135596800,0,HSl.nil⟩:Sg)]).length d1∧OwnR 59 5 z u1 B1 d1 (sgRows (S++[(⟨1,⟨#[]⟩,-62135596800,0,HSl.nil⟩:Sg)]))∧Below z u u1∧u.grownBy u1 (blkOf B)) hs hd zl (fun K Q hK=>
    op_app_row (.tmp 50) (.tmp 53) rfl Tryz.underlying39 sgn_info rfl (by decide) (R:=sgRows S) (r:=(⟨1,⟨#[]⟩,-62135596800,0,HSl.nil⟩:Sg).cells) (by rw[sgRows_length];exact sl zl 50) (sl zl 53) hlw.own hgs rfl (Sg.one (⟨1,⟨#[]⟩,-62135596800,0,HSl.nil⟩:Sg)) (by rw[sgRows_length,HSL.out];omega) (by decide) hlw.size
     (fun B1 d1 u1 h1 h2 h3 _=>by
      have e:sgRows S++[(⟨1,⟨#[]⟩,-62135596800,0,HSl.nil⟩:Sg).cells]=sgRows (S++[(⟨1,⟨#[]⟩,-62135596800,0,HSl.nil⟩:Sg)]):=by simp[sgRows]
      rw[e]at h1⊢;rw[sgRows_length];exact hK _ _ ⟨B1,d1,rfl,h1,h2,h3⟩)) ?_
   rintro _ u1 ⟨B1,d1,rfl,hown1,hb1,hgb⟩;clear hs hd zl;intro a hs hd zl;have k9:Blk u1 g9 _ _:=gb_blk hgb hlw.h9 (fun e=>hlw.own.ne hlw.h9 (by decide) e.symm);replace hlw:=hlw.app hown1 hb1 hgb hzw HG9 h89 hbf hrf;have c5:u1.cell? ⟨g9,5,none⟩=some (.slice B S.length d):=k9.cell 5;have f5:=k9.free 5;clear hup hB hown1 hb1 hgb hgs k9;refine wW ?_;clear hs hd zl;intro a hs hd zl;refine ts hs hd zl ?_;clear hs hd zl;intro a hs hd zl;clear c5 f5;generalize u1.setCell ⟨g9,5,none⟩ (.slice B1 (S.length+1) d1)=u3 at hlw⊢;have e2:(S++[(⟨1,⟨#[]⟩,-62135596800,0,HSl.nil⟩:Sg)]).length=S.length+1:=by simp
   (repeat first|refine wp_seq ?_|refine wp_block ?_|refine wp_region_list ?_|(refine tx hs hd zl ?_;clear hs hd zl;intro a hs hd zl)|(refine tn hs hd zl ?_;clear hs hd zl;intro a hs hd zl)|refine ct zl ?_|refine cf zl ?_|refine wp_skip ?_)
   refine wp_exit ?_;(repeat refine then_exit ?_);refine inBlock_exit ?_;refine wW ?_;clear hs hd zl;intro a hs hd zl;refine⟨⟨k+1,S++[(⟨1,⟨#[]⟩,-62135596800,0,HSl.nil⟩:Sg)],B1,d1,hs,hd,ks zl,hlt,hS.snoc HLK.out ?_,hlw⟩,?_⟩
   ·exact⟨.inl rfl,fun _=>⟨rfl,rfl⟩,fun h=>absurd rfl h,rfl,rfl,hfn⟩
   ·rw[sl zl 23];simp[intOf];omega
  ·have e4:decide (f=1)=false:=decide_eq_false hf1;have e4':(f == 1)=false:=by simpa using hf1
   have hsc:=hn.sec;have w1:IntKind.i64.wrap (H.sec+(k:Int))=H.sec+(k:Int):=IntWalk.i64_in _ (by omega);refine wW ?_;clear hs hd zl;intro a hs hd zl;refine tb (cs:=(⟨f,v.a,H.sec+(k:Int),0,HSl.nil⟩:Sg).cells.toArray) hs hd zl ?_;intro gs u hgs hgse hb;clear hs hd zl;intro a hs hd zl;replace hlw:=hlw.after hb;clear c5 d4 d0 l4 hg hb;replace zl:=kp [1,2,3,4,8,9,21,22,23,57,68] zl;refine tw (fun v1 u1=>∃B1 d1,v1=.slice B1 (S++[(⟨f,v.a,H.sec+(k:Int),0,HSl.nil⟩:Sg)]).length d1∧OwnR 59 5 z u1 B1 d1 (sgRows (S++[(⟨f,v.a,H.sec+(k:Int),0,HSl.nil⟩:Sg)]))∧Below z u u1∧u.grownBy u1 (blkOf B)) hs hd zl (fun K Q hK=>
    op_app_row (.tmp 57) (.tmp 68) rfl Tryz.underlying39 sgn_info rfl (by decide) (R:=sgRows S) (r:=(⟨f,v.a,H.sec+(k:Int),0,HSl.nil⟩:Sg).cells) (by rw[sgRows_length];exact sl zl 57) (sl zl 68) hlw.own hgs rfl (Sg.one (⟨f,v.a,H.sec+(k:Int),0,HSl.nil⟩:Sg)) (by rw[sgRows_length,HSL.out];omega) (by decide) hlw.size
     (fun B1 d1 u1 h1 h2 h3 _=>by
      have e:sgRows S++[(⟨f,v.a,H.sec+(k:Int),0,HSl.nil⟩:Sg).cells]=sgRows (S++[(⟨f,v.a,H.sec+(k:Int),0,HSl.nil⟩:Sg)]):=by simp[sgRows]
      rw[e]at h1⊢;rw[sgRows_length];exact hK _ _ ⟨B1,d1,rfl,h1,h2,h3⟩)) ?_
   rintro _ u1 ⟨B1,d1,rfl,hown1,hb1,hgb⟩;clear hs hd zl;intro a hs hd zl;have k9:Blk u1 g9 _ _:=gb_blk hgb hlw.h9 (fun e=>hlw.own.ne hlw.h9 (by decide) e.symm);replace hlw:=hlw.app hown1 hb1 hgb hzw HG9 h89 hbf hrf;have c5:u1.cell? ⟨g9,5,none⟩=some (.slice B S.length d):=k9.cell 5;have f5:=k9.free 5;clear hup hB hown1 hb1 hgb hgs k9;refine wW ?_;clear hs hd zl;intro a hs hd zl;refine ts hs hd zl ?_;clear hs hd zl;intro a hs hd zl;clear c5 f5;generalize u1.setCell ⟨g9,5,none⟩ (.slice B1 (S.length+1) d1)=u3 at hlw⊢;have e2:(S++[(⟨f,v.a,H.sec+(k:Int),0,HSl.nil⟩:Sg)]).length=S.length+1:=by simp
   refine wW ?_;clear hs hd zl;intro a hs hd zl;refine⟨⟨k+1,S++[(⟨f,v.a,H.sec+(k:Int),0,HSl.nil⟩:Sg)],B1,d1,hs,hd,ks zl,hlt,hS.snoc HLK.out ?_,hlw⟩,?_⟩
   ·exact⟨hfl,fun h=>absurd h hf1,fun _=>⟨rfl,rfl⟩,rfl,rfl,hfn⟩
   ·rw[sl zl 23];simp[intOf];omega
 ·obtain rfl:k=n:=by omega
  have e1:decide (k<k)=false:=decide_eq_false (by omega);have d2:u.cell? ⟨g4,2,none⟩=some (.string H.ch):=hlw.h4.cell 2;have l4:=hlw.h4.lt;rw[← hN.out,List.take_length]at hS;have HLS:=Is.hid hS.len;refine wW ?_;clear hs hd zl;intro a hs hd zl;refine wp_exit ?_;(repeat refine then_exit ?_);refine inBlock_exit ?_;refine wW ?_;clear hs hd zl;intro a hs hd zl;refine tk hs hd zl (fun K Q hK=>op_load_row 41 (.tmp 9) rfl g9 (sl zl 9) _ (⟨H.ht,0,b,1,r,B,d,S⟩:Ic).cells _ hlw.h9 rfl rfl (by kernel_rfl) hK) ?_;clear hs hd zl;intro a hs hd zl;obtain⟨cs8,hz8,hg8⟩:=hlw.h8;have l8:=hg8.lt;have hSi:∀s∈S,∃(i:Nat) (v:Seat),L[i]?=some v∧Sn0 H.sec (F=[]) v i s:=fun s hs=>by
   obtain⟨i,hi⟩:=List.getElem?_of_mem hs;have hi':i<L.length:=by rw[← hS.len];exact(List.getElem?_eq_some_iff.1 hi).1
   exact⟨i,_,List.getElem?_eq_getElem hi',hS.of_ i _ _ (List.getElem?_eq_getElem hi') hi⟩
  have hr:=c_resd ⟨H.ht,0,b,1,r,B,d,S⟩ L _ c2 H.ch u hlw.bo hlw.ro hlw.own.rows (hL.after hB) hG HLS.out (by rw[hN.out];exact hn0) (by rw[hN.out];exact hn20) ⟨hn.ht,⟨Int.le_refl _,(by decide:(0:Int)≤9223372036854775807)⟩,⟨(by decide:(0:Int)≤1),(by decide:(1:Int)≤4294967295)⟩,by show 0<b.l.length;rw[hbl.out,rootN_len];decide⟩ (by show b.l.length≤_;rw[hbl.out,rootN_len];decide) (by show r.l.length≤_;rw[hrl.out,sha_len];decide)
   (fun s hs hf=>by
    obtain⟨i,v,hi,h1⟩:=hSi s hs;have hil:=(List.getElem?_eq_some_iff.1 hi).1;rw[hN.out]at hil;have hsc:=hn.sec;exact⟨by rw[(h1.two hf).2];omega,by rw[h1.ns];omega⟩) [g8] (fun x hx=>by rw[List.mem_singleton.1 hx];exact l8)
   (fun s hs=>by
    obtain⟨i,v,hi,h1⟩:=hSi s hs;rw[h1.sg];exact⟨HSl.nil_ok _,fun k hk=>by cases hk⟩) hch (hKt.after hB) (Nat.lt_of_lt_of_le h0 hB.size)
  rw[hN.out]at hr;refine wW ?_;clear hs hd zl;intro a hs hd zl;refine tc hr hs hd zl ?_;rintro _ u1 ⟨T,g,c',rest,rfl,hge,hSB,hcap,hRs,hfar,hb⟩;refine⟨_,rfl,?_⟩;clear hs hd zl;intro a hs hd zl;clear hr;have hbg:∀k,blkOf b.A=some k→k≠g:=fun k hk=>by have:=hlw.bo.blk k hk;omega
  have hrg:∀k,blkOf r.A=some k→k≠g:=fun k hk=>by have:=hlw.ro.blk k hk;omega
  have hbo:=hlw.bo.after hb;have hro:=hlw.ro.after hb;replace hg8:=hg8.after hb;have hgw:=Nat.le_trans hB.size hge;have hge8:g8≠g:=by omega
  refine tsr (g:=g8) (cs:=icAt ⟨H.ht,0,b,1,r,B,d,S⟩ g k c') hs hd zl hg8 ?_ ?_ (hcur:=by rw[hz8];rfl)
  ·intro v hv;simp only[icAt,icCells,HSl.v,List.mem_cons,List.not_mem_nil,or_false]at hv;rcases hv with rfl|rfl|rfl|rfl|rfl|rfl <;> rfl
  intro hg82;clear hs hd zl;intro a hs hd zl;have hGB:=gb_setRow u1 g8 (icAt ⟨H.ht,0,b,1,r,B,d,S⟩ g k c');have hSB2:SgB _ g T rest:=Blk.gbfar hSB hGB hge8;have hfar2:=(hfar.gb (g:=g8) (by simp) hGB).less (gs':=[g]) (by simp);have hB2:Below w.heap.size w _:=below_setRow (bz_then hB hb) HG8 (icAt ⟨H.ht,0,b,1,r,B,d,S⟩ g k c');replace hbo:=hbo.gb hGB hb8;replace hro:=hro.gb hGB hr8;generalize u1.setRow g8 (icAt ⟨H.ht,0,b,1,r,B,d,S⟩ g k c')=u2 at hg82 hSB2 hfar2 hB2 hbo hro⊢
  (repeat first|refine wp_seq ?_|refine wp_block ?_|refine wp_region_list ?_|(refine tx hs hd zl ?_;clear hs hd zl;intro a hs hd zl)|(refine tn hs hd zl ?_;clear hs hd zl;intro a hs hd zl)|refine ct zl ?_|refine cf zl ?_|refine wp_skip ?_)
  refine wp_ret ?_;(repeat first|refine then_ret ?_|refine inBlock_ret ?_);exact end_row rfl g8 (sl zl 8) hd.out 41 _ _ hg82 Tryz.underlying41 rfl (by kernel_rfl) ⟨⟨H.ht,0,b,1,r,B,d,S⟩,T,g,c',rest,rfl,hgw,hSB2,hcap,rfl,rfl,rfl,hbl.out,hrl.out,hbo,hro,hbg,hrg,hS,hRs,hfar2,hB2⟩
def SgWf(s:Sg):Prop:=s.fl=1∧s.ad.size=0∧s.sec= -62135596800∧s.ns=0∧s.sg.l.length=0∨(s.fl=2∨s.fl=3)∧s.ad.size=20∧s.sg.l.length=32∧0≤s.sec∧s.sec≤8000000000000000000∧s.ns=0
structure StpOk(H0 H1:Hd)(C1:Ic)(S0 S1:List Seat)(per ts tn d:Int):Prop where
 n0:H0.num
 n1:H1.num
 ht:0<H1.ht
 lim:H0.ht≤1000000
 sized:H1.sized
 formed:formedB H1=true
 vh:(H1.hh 2).l=rootN 20 (sLeaves S1)
 cht:C1.ht=H1.ht
 cb:C1.b.l=rootN 20 H1.leaves
 cbp:C1.bp.l.length=32
 len:C1.S.length=S1.length
 sg:∀s∈C1.S,SgWf s
 dist:∀(i i':Nat) s s',C1.S[i]?=some s→C1.S[i']?=some s'→s.fl≠1→s'.fl≠1→s.ad=s'.ad→i=i'
 ch:H1.ch=H0.ch
 chs:H0.ch.size≤1000
 af:H0.ht<H1.ht→laterB (H1.sec+62135596800) H1.ns (H0.sec+62135596800) H0.ns=true
 be:laterB (addS (ts+62135596800) tn d) (addN tn d) (H1.sec+62135596800) H1.ns=true
 exp_:laterB (addS (H0.sec+62135596800) H0.ns per) (addN H0.ns per) (ts+62135596800) tn=true
 ts:0≤ts∧ts≤8000000000000000000
 tn:0≤tn∧tn<1000000000
 d:0≤d∧d≤9000000000000000000
 per:0≤per∧per≤9000000000000000000
 nx:H1.ht=H0.ht+1→(H1.hh 2).l=(H0.hh 3).l
structure IcAt(C:Ic)(w:World):Prop where
 b:C.b.ok w
 bp:C.bp.ok w
 bt:0≤C.bt∧C.bt≤4294967295
 rd:0≤C.rd∧C.rd≤2147483647
 rows:RowsAt w C.A 5 (sgRows C.S)
 sg:∀s∈C.S,SgOk s w
 n0:0<C.S.length
 n:C.S.length≤20
theorem SgOk.after{s:Sg}{w w':World}(h:SgOk s w)(hb:Below w.heap.size w w'):SgOk s w':=⟨h.fl,h.sec,h.ns,h.ad,h.sg.after hb⟩
theorem IcAt.after{C:Ic}{w w':World}(h:IcAt C w)(hb:Below w.heap.size w w'):IcAt C w':=⟨h.b.after hb,h.bp.after hb,h.bt,h.rd,h.rows.after hb,fun s hs=>(h.sg s hs).after hb,h.n0,h.n⟩
theorem VlsOf.leaves{S:List Seat}{V:List Vl}(h:VlsOf S V):vLeaves V=sLeaves S:=by
 unfold vLeaves sLeaves;apply List.ext_getElem?;intro i;rw[List.getElem?_map,List.getElem?_map];rcases Nat.lt_or_ge i S.length with hi|hi
 ·have hi':i<V.length:=by rw[h.len];exact hi
  rw[List.getElem?_eq_getElem hi,List.getElem?_eq_getElem hi'];have h1:=h.of_ i _ _ (List.getElem?_eq_getElem hi) (List.getElem?_eq_getElem hi');simp only[Option.map_some,vLeaf,Seat.leaf,h1.ky,h1.p]
 ·rw[List.getElem?_eq_none hi,List.getElem?_eq_none (by rw[h.len];exact hi)];rfl
theorem VlsOf.sum{S:List Seat}{V:List Vl}(h:VlsOf S V):sumP V=total S:=by
 unfold sumP total
 congr 1
 apply List.ext_getElem?;intro i;rw[List.getElem?_map,List.getElem?_map];rcases Nat.lt_or_ge i S.length with hi|hi
 ·have hi':i<V.length:=by rw[h.len];exact hi
  rw[List.getElem?_eq_getElem hi,List.getElem?_eq_getElem hi'];have h1:=h.of_ i _ _ (List.getElem?_eq_getElem hi) (List.getElem?_eq_getElem hi');simp only[Option.map_some,h1.p]
 ·rw[List.getElem?_eq_none hi,List.getElem?_eq_none (by rw[h.len];exact hi)];rfl
theorem VlsOf.pw{S:List Seat}{V:List Vl}(h:VlsOf S V)(hG:Good S):∀v∈V,0<v.p∧v.p≤1000000:=fun v hv=>by
 obtain⟨i,hi⟩:=List.getElem?_of_mem hv;have hi':i<S.length:=by rw[← h.len];exact(List.getElem?_eq_some_iff.1 hi).1
 rw[(h.of_ i _ v (List.getElem?_eq_getElem hi') hi).p];have:=(hG _ (List.getElem_mem hi')).p;omega
theorem CsOf.wf{s:Sg}{c:CS}(h:CsOf s c)(hs:SgWf s):c.wf:=by
 rcases hs with⟨h1,h2,h3,h4,h5⟩|⟨h1,h2,h3,-,-,h5⟩
 ·exact .inl ⟨h.fl.trans h1,by rw[h.ad,bytesOf_length,h2],by rw[h.sec,h3];rfl,h.ns.trans h4,by rw[h.sg,h5]⟩
 ·exact .inr ⟨by rw[h.fl];exact h1,by rw[h.ad,bytesOf_length,h2],by rw[h.sg,h3]⟩
theorem CssOf.get{S:List Sg}{T:List CS}(h:CssOf S T){i:Nat}{c:CS}(hc:T[i]?=some c):∃s,S[i]?=some s∧CsOf s c:=by
 have hi:i<S.length:=by rw[← h.len];exact(List.getElem?_eq_some_iff.1 hc).1
 exact⟨_,List.getElem?_eq_getElem hi,h.of_ i _ c (List.getElem?_eq_getElem hi) hc⟩
theorem adAt_get{V:List Vl}{l:List Int}{j:Nat}(h:adAt V l=some j):∃v,V[j]?=some v∧v.ad.l=l:=by
 unfold adAt at h;rw[List.findIdx?_eq_some_iff_getElem]at h;obtain⟨hj,h1,_⟩:=h;exact⟨_,List.getElem?_eq_getElem hj,by unfold adIs at h1;simpa using h1⟩
structure ShOf(H:Hd)(C:Ic)(s:Sh):Prop where
 hd:s.H=H
 ps:s.ps.l=bytesOf H.pr
 cm:∃B d T,s.C=icMk C B d T∧CssOf C.S T
theorem stp_chk{H0 H1:Hd}{C0 C1:Ic}{S0 S1:List Seat}{per ts tn d:Int}{s1 s0:Sh}{X V:Vs}{g1 g0 gx gv:Nat}{w:World}(h:StpOk H0 H1 C1 S0 S1 per ts tn d)(hC1:0≤C1.rd∧C1.rd≤2147483647)(hbt:0≤C1.bt∧C1.bt≤4294967295)(k0:SetOk S0)(k1:SetOk S1)(m0:0<S0.length)(m1:0<S1.length)
  (h1:ShOf H1 C1 s1)(h0:ShOf H0 C0 s0)(hx:VlsOf S0 X.V)(hv:VlsOf S1 V.V)(hA:NewAt s1 s0 V g1 g0 gv w)(hbx:Blk w gx 157 X.cells)(hix:X.in_ w)(hfx:blkOf X.A≠some gx)(hfv:blkOf V.A≠some gv)(htx:X.tot=0)(htv:V.tot=0)(hxy:gv≠gx)(hvx:blkOf V.A≠some gx):
  ChkOk s1 s0 X V g1 g0 gx gv per (ts+62135596800) tn d w:=by
 obtain⟨hH1,hps,B,dd,T,hC,hT⟩:=h1;obtain⟨hH0,-,-⟩:=h0;have hnum:s1.C.num:=by
  rw[hC];have:=h.n1.ht;exact⟨by show 0≤C1.ht∧C1.ht≤_;rw[h.cht];exact this,hC1,hbt,by show C1.b.l.length=32;rw[h.cb,rootN_len],h.cbp,by show T.length≤20;rw[hT.len,h.len];exact k1.le⟩
 have hS:s1.C.S=T:=by rw[hC];rfl
 have hwf:∀c∈s1.C.S,c.wf:=fun c hc=>by
  rw[hS]at hc;obtain⟨i,hi⟩:=List.getElem?_of_mem hc;obtain⟨s,hs,ho⟩:=hT.get hi;exact ho.wf (h.sg s (List.mem_of_getElem? hs))
 have hcs:∀c∈s1.C.S,c.fl=2→c.wf∧TmOk c.sec c.ns:=fun c hc hf=>by
  refine⟨hwf c hc,?_⟩;rw[hS]at hc;obtain⟨i,hi⟩:=List.getElem?_of_mem hc;obtain⟨s,hs,ho⟩:=hT.get hi;rcases h.sg s (List.mem_of_getElem? hs)with⟨e,_⟩|⟨_,_,_,e1,e2,e3⟩
  ·rw[ho.fl,e]at hf;exact absurd hf (by decide)
  ·exact⟨by rw[ho.sec];omega,by rw[ho.ns,e3];decide⟩
 have hlx:X.P.length=S0.length:=hix.len.trans hx.len;have hlv:V.P.length=S1.length:=hA.V.len.trans hv.len;have hlc:s1.C.S.length=S1.length:=by rw[hS,hT.len,h.len]
 have hsx:=total_le S0 k0.good;have hsv:=total_le S1 k1.good;have:=k0.le;have:=k1.le;refine {hA:=hA,hX:=⟨hbx,hix,hfx,hA.s1.hc,.inl htx,hA.kt,hA.k0⟩,hf:=hfv,htot:=.inl htv,hxy:=hxy,hfx:=hvx,hwf:=?_,hn0:=by rw[hH0];exact h.n0,hV:=⟨hv.pw k1.good,by rw[hv.leaves];exact sLeaves_small k1.good,by rw[hlv];exact k1.le,by rw[hlv];exact m1⟩,hX0:=by rw[hlx];exact m0,hnew:=?_,hts:=by have:=h.ts;omega,htn:=h.tn,hd1:=h.d,hper:=h.per,hexp:=by rw[hH0];exact h.exp_,hlim:=by rw[hH0];exact h.lim,hnx:=by rw[hH1,hH0];exact h.nx,hok:=?_,hokx:=fun _=>?_}
 ·exact⟨by rw[hps,hH1],by rw[hH1];exact h.n1,by rw[hH1];exact h.ht,by rw[hH1];exact h.sized,by rw[hH1];exact h.formed,by rw[hH1,h.vh];exact rootN_len _ _,by rw[hC,hH1];exact h.cht,by rw[hC];exact hC1.1,by rw[hC,hH1];exact h.cb,hnum.b,by rw[hlc];exact m1,by rw[hlc];omega,hwf⟩
 ·exact⟨by rw[hH1,hH0];exact h.ch,by rw[hH1,hH0];exact h.af,by rw[hH1];exact h.be,by rw[hH1,hv.leaves];exact h.vh⟩
 ·refine⟨hnum,hcs,hv.pw k1.good,by rw[hlv];omega,fun _=>by rw[hlv,hlc],by rw[hH0];exact h.chs,?_,fun e=>by cases e⟩;rw[hv.sum];omega
 ·refine⟨hnum,hcs,hx.pw k0.good,by rw[hlx];omega,fun e=>(by cases e),by rw[hH0];exact h.chs,?_,fun _ i i' j c c' hi hi' hf hf' ha ha'=>?_⟩
  ·rw[hx.sum];omega
  ·rw[hS]at hi hi';obtain⟨s,hs,ho⟩:=hT.get hi;obtain⟨s',hs',ho'⟩:=hT.get hi';obtain⟨v,hv1,hv2⟩:=adAt_get ha;obtain⟨v',hv1',hv2'⟩:=adAt_get ha';rw[hv1]at hv1';injection hv1' with e;subst e;rw[hv2,ho.ad,ho'.ad]at hv2';exact h.dist i i' s s' hs hs' (by rw[← ho.fl,hf];decide) (by rw[← ho'.fl,hf'];decide) (bytesOf_inj hv2')
def FItem.py(t t2:Nat)(R:Value→Value→World→Prop)(hk:∀v v2 w w',Below w.heap.size w w'→R v v2 w→R v v2 w'):FItem:={reads:=[t,t2],fact:=fun vs w=>∃v v2,vs=[v,v2]∧R v v2 w,keeps:=fun _ _ _ hb ⟨v,v2,h1,h2⟩=>⟨v,v2,h1,hk _ _ _ _ hb h2⟩}
theorem FItem.py_holds{t t2:Nat}{R:Value→Value→World→Prop}{hk:∀v v2 w w',Below w.heap.size w w'→R v v2 w→R v v2 w'}{a:Act}{w:World}:(FItem.py t t2 R hk).holds a w↔R (a.tmps.getD t undef) (a.tmps.getD t2 undef) w:=by
 constructor
 ·rintro⟨v,v2,h1,h2⟩;injection h1 with h1 h3;injection h3 with h3;have h1:a.tmps.getD t undef=v:=h1;have h3:a.tmps.getD t2 undef=v2:=h3;rw[h1,h3];exact h2
 ·exact fun h=>⟨_,_,rfl,h⟩
theorem bcz{P:Program}{Q:Exit→Act→World→Prop}{F:List (Nat×Value)}{sz:Nat}{W:World}{its:List FItem}{o:Oper}{d t2:Nat}{R1:Value→World→Prop}{R:Value→Value→World→Prop}{hk:∀v v2 w w',Below w.heap.size w w'→R v v2 w→R v v2 w'}{f:FuncId}{args:Array Value}(hR:∀(a:Act) w,DepsHold its a w (deps o)→R1 (a.tmps.getD t2 undef) w)(hlt:d<sz)(hne:t2≠d)
  (hc:∀w x,Below W.heap.size W w→R1 x w→Calls P f args w fun e w'=>∃v,e=.returned v∧R v x w'∧Below w.heap.size w w')
  (hdst:o.dst=some d:=by exact rfl)
  (h:∀(a:Act) (w:World),Below W.heap.size W w→LiveAll F a→DepsHold its a w (deps o)→∀(K:Act→World→Prop) (Q:Exit→Act→World→Prop),(∀S:Ending→World→Prop,(∀v w',K (a.put (some d) v) w'→S (.returned v) w')→Calls P f args w S)→o.wp P a w K Q:=by
   (intro a w hb zl hd K Q hK;have q:=gA zl;have q1:=bup hb;(try have q2:=bup (bz_then hB hb));simp only[GetAll]at q;simp[deps,Region.binds,deG,deN,eqG]at hd;go_simp;(with_reducible refine hK _ ?_);exact fun v w' h=>h)):
  Bare P Q F sz W its o (FItem.py d t2 R hk):=fun a w hb hs hl hd K hK=>h a w hb hl hd K Q fun S hS=>(hc w _ hb (hR a w hd)).mono fun e w' he=>by
 obtain⟨v,rfl,hv,hb'⟩:=he;rw[hdst]at hK;refine hS _ _ (hK _ _ hb' (FItem.py_holds.2 ?_));rw[put_eq hs hlt,put_getD _ _ _ _ (fun e=>hne (Option.some.inj e).symm)];exact hv
def ShV(H:Hd)(C:Ic)(v:Value)(w:World):Prop:=∃(s:Sh) (g:Nat),v=.pointer (some ⟨g,0,none⟩)∧Blk w g 128 s.cells∧s.at w∧ShOf H C s
theorem ShV.keeps(H:Hd)(C:Ic):∀v (w w':World),Below w.heap.size w w'→ShV H C v w→ShV H C v w':=fun _ _ _ hb ⟨s,g,h1,h2,h3,h4⟩=>⟨s,g,h1,h2.after hb,h3.after hb,h4⟩
def VsV(B:Nat)(S:List Seat)(v:Value)(w:World):Prop:=∃(T:Vs) (g:Nat),v=.pointer (some ⟨g,0,none⟩)∧Blk w g 157 T.cells∧T.in_ w∧VlsOf S T.V∧T.tot=0∧B≤g∧∀b,blkOf T.A=some b→B≤b∧b≠g
theorem VsV.keeps(B:Nat)(S:List Seat):∀v (w w':World),Below w.heap.size w w'→VsV B S v w→VsV B S v w':=fun _ _ _ hb ⟨T,g,h1,h2,h3,h4⟩=>⟨T,g,h1,h2.after hb,h3.after hb,h4⟩
def ShB(H:Hd)(C:Ic)(v v2:Value)(w:World):Prop:=ShV H C v w∧∃gx g,v2=.pointer (some ⟨gx,0,none⟩)∧v=.pointer (some ⟨g,0,none⟩)∧gx<g∧g<w.heap.size
theorem ShB.keeps(H:Hd)(C:Ic):∀v v2 (w w':World),Below w.heap.size w w'→ShB H C v v2 w→ShB H C v v2 w':=fun _ _ _ _ hb ⟨h1,gx,g,h2,h3,h4,h5⟩=>⟨ShV.keeps _ _ _ _ _ hb h1,gx,g,h2,h3,h4,Nat.lt_of_lt_of_le h5 hb.size⟩
def VsB(S:List Seat)(v v2:Value)(w:World):Prop:=∃g,v2=.pointer (some ⟨g,0,none⟩)∧VsV (g+1) S v w
theorem VsB.keeps(S:List Seat):∀v v2 (w w':World),Below w.heap.size w w'→VsB S v v2 w→VsB S v v2 w':=fun _ _ _ _ hb ⟨g,h1,h2⟩=>⟨g,h1,VsV.keeps _ _ _ _ _ hb h2⟩
theorem isg_call{H:Hd}{C:Ic}{w:World}(hn:H.num)(hH:H.ok w)(hC:IcAt C w):Calls Tryz.prog 30 #[.agg H.cells,.agg C.cells] w fun e w'=>∃v,e=.returned v∧(ShV H C v w'∧∃g,v=.pointer (some ⟨g,0,none⟩)∧w.heap.size≤g∧g<w'.heap.size)∧Below w.heap.size w w':=
 (c_isg H C w hn hH hC.b hC.bp hC.bt hC.rd hC.rows hC.sg hC.n0 hC.n).mono fun e w' ⟨s,g,h1,h2,h3,h4,h5,h6,h7,h8⟩=>⟨_,h1,⟨⟨s,g,rfl,h2,h3,h4,h5,h6⟩,g,rfl,h7,h2.lt⟩,h8⟩
theorem iset_call{S:List Seat}{A:Option Addr}{c:Nat}{w:World}(hS:SeatsAt w A S)(hok:SetOk S)(h0:0<S.length):Calls Tryz.prog 31 #[.slice A S.length c] w fun e w'=>∃v,e=.returned v∧VsV w.heap.size S v w'∧Below w.heap.size w w':=
 (c_iset S A c w hS hok.good hok.nodup h0 (by have:=hok.le;omega)).mono fun e w' ⟨T,g,h1,h2,h3,h4,h5,h6,_,h7,h8⟩=>⟨_,h1,⟨T,g,rfl,h2,h3,h4,h5,h6,h7⟩,h8⟩
theorem c_step(H0 H1:Hd)(C0 C1:Ic)(S0 S1:List Seat)(A0 A1:Option Addr)(c0 c1:Nat)(per ts tn d:Int)(w:World)(h:StpOk H0 H1 C1 S0 S1 per ts tn d)(k0:SetOk S0)(k1:SetOk S1)(m0:0<S0.length)(m1:0<S1.length)(hH0:H0.ok w)(hH1:H1.ok w)(hC0:IcAt C0 w)(hC1:IcAt C1 w)(hS0:SeatsAt w A0 S0)(hS1:SeatsAt w A1 S1)(hKt:KTab w 1)(hK0:1<w.heap.size):
  Calls Tryz.prog 10 #[.agg H0.cells,.agg C0.cells,.slice A0 S0.length c0,.agg H1.cells,.agg C1.cells,.slice A1 S1.length c1,.int .i64 per,.agg #[.int .i64 ts,.int .i64 tn],.int .i64 d,.int .i64 1,.int .i64 3] w fun e w'=>∃(r:Int) (X V:List Vl) (T:List CS) (B:Option Addr) (q:Nat),e=.returned (.int .i64 r)∧VlsOf S0 X∧VlsOf S1 V∧CssOf C1.S T∧OutVer X V (icMk C1 B q T) H0.ch H1.ht H0.ht r∧Below w.heap.size w w':=by
 obtain⟨n0,hN0⟩:∃n,Is S0.length n:=is_self _;obtain⟨n1,hN1⟩:∃n,Is S1.length n:=is_self _;rw[hN0.out,hN1.out];have w1:IntKind.u64.wrap 1=1:=by decide
 have w3:IntKind.u64.wrap 3=3:=by decide
 refine en (sz:=43) rfl rfl rfl fun a hs hd zl=>?_;have hB:=bz_refl w
 refine wp_seq (wp_region_list ?_);refine ta (cs:=H0.cells) hs hd zl ?_;intro g11 u hg11 hge hb;clear hs hd zl;intro a hs hd zl;replace hB:=bz_then hB hb;(try clear hup);have hup:=bup hB;clear hb;refine ta (cs:=C0.cells) hs hd zl ?_;intro g12 u hg12 hge hb;clear hs hd zl;intro a hs hd zl;replace hg11:=hg11.after hb;replace hB:=bz_then hB hb;(try clear hup);have hup:=bup hB;clear hb;refine ta (cs:=H1.cells) hs hd zl ?_;intro g14 u hg14 hge hb;clear hs hd zl;intro a hs hd zl;replace hg11:=hg11.after hb;replace hg12:=hg12.after hb;replace hB:=bz_then hB hb;(try clear hup);have hup:=bup hB;clear hb;refine ta (cs:=C1.cells) hs hd zl ?_;intro g15 u hg15 hge hb;clear hs hd zl;intro a hs hd zl;replace hg11:=hg11.after hb;replace hg12:=hg12.after hb;replace hg14:=hg14.after hb;replace hB:=bz_then hB hb;(try clear hup);have hup:=bup hB;clear hb;refine ta (cs:=#[.int .i64 ts,.int .i64 tn]) hs hd zl ?_;intro g18 u hg18 hge hb;clear hs hd zl;intro a hs hd zl;replace hg11:=hg11.after hb;replace hg12:=hg12.after hb;replace hg14:=hg14.after hb;replace hg15:=hg15.after hb;replace hB:=bz_then hB hb;(try clear hup);have hup:=bup hB;clear hb;clear hge;refine wW ?_;clear hs hd zl;intro a hs hd zl;have i0:∀u1,Below u.heap.size u u1→Calls Tryz.prog 30 #[.agg H0.cells,.agg C0.cells] u1 fun e w'=>∃v,e=.returned v∧ShV H0 C0 v w'∧Below u1.heap.size u1 w':=fun u1 hb1=>
  (isg_call h.n0 ((hH0.after hB).after hb1) ((hC0.after hB).after hb1)).mono fun e w' ⟨v,h1,h2,h3⟩=>⟨v,h1,h2.1,h3⟩
 have i1:∀u1,Below u.heap.size u u1→Calls Tryz.prog 31 #[.slice A0 n0 c0] u1 fun e w'=>∃v,e=.returned v∧VsV w.heap.size S0 v w'∧Below u1.heap.size u1 w':=fun u1 hb1=>by
  have:=iset_call (c:=c0) ((hS0.after hB).after hb1) k0 m0;rw[hN0.out]at this;exact this.mono fun e w' ⟨v,h1,⟨T,g,h2,h3,h4,h5,h6,h7,h8⟩,h9⟩=>⟨v,h1,⟨T,g,h2,h3,h4,h5,h6,Nat.le_trans (Nat.le_trans hB.size hb1.size) h7,fun b hb=>⟨Nat.le_trans (Nat.le_trans hB.size hb1.size) (h8 b hb).1,(h8 b hb).2⟩⟩,h9⟩
 have i2:∀u1 x,Below u.heap.size u u1→VsV w.heap.size S0 x u1→Calls Tryz.prog 30 #[.agg H1.cells,.agg C1.cells] u1 fun e w'=>∃v,e=.returned v∧ShB H1 C1 v x w'∧Below u1.heap.size u1 w':=fun u1 x hb1 hx=>by
  obtain⟨T,gx,rfl,hbx,-⟩:=hx;exact(isg_call h.n1 ((hH1.after hB).after hb1) ((hC1.after hB).after hb1)).mono fun e w' ⟨v,h1,⟨h2,g,h3,h4,h5⟩,h6⟩=>⟨v,h1,⟨h2,gx,g,rfl,h3,Nat.lt_of_lt_of_le hbx.lt h4,h5⟩,h6⟩
 have i3:∀u1 x,Below u.heap.size u u1→(∃g,x=.pointer (some ⟨g,0,none⟩)∧g<u1.heap.size)→Calls Tryz.prog 31 #[.slice A1 n1 c1] u1 fun e w'=>∃v,e=.returned v∧VsB S1 v x w'∧Below u1.heap.size u1 w':=fun u1 x hb1 hx=>by
  obtain⟨g,rfl,hg⟩:=hx;have:=iset_call (c:=c1) ((hS1.after hB).after hb1) k1 m1;rw[hN1.out]at this;exact this.mono fun e w' ⟨v,h1,⟨T,gv,h2,h3,h4,h5,h6,h7,h8⟩,h9⟩=>⟨v,h1,⟨g,rfl,T,gv,h2,h3,h4,h5,h6,by omega,fun b hb=>⟨by have:=(h8 b hb).1;omega,(h8 b hb).2⟩⟩,h9⟩
 change Code.wp _ _ _ _ _;refine fxs [.inl (23,.agg H0.cells),.inl (24,.agg C0.cells),.inr (.px 25 (ShV H0 C0) (ShV.keeps _ _)),.inl (26,_),.inr (.px 27 (VsV w.heap.size S0) (VsV.keeps _ _)),.inl (28,.agg H1.cells),.inl (29,.agg C1.cells),.inr (.py 30 27 (ShB H1 C1) (ShB.keeps _ _)),.inl (31,_),.inr (.py 32 30 (VsB S1) (VsB.keeps _)),.inl (33,_),.inl (34,.agg #[.int .i64 ts,.int .i64 tn]),.inl (35,.agg #[.int .i64 (ts+62135596800),.int .i32 tn]),.inl (36,_),.inl (37,_),.inl (38,_),.inl (39,_),.inl (40,_),.inl (41,_)] 19 hs hd zl
  (by
   simp only[List.map_cons,List.map_nil,itS]
   (repeat' first|exact trivial|refine And.intro (sP bo) ?_|refine And.intro (sP (bk (v:=.agg H0.cells) (fun a u1 hb zl hd K Q hK=>op_load_row 37 (.tmp 11) rfl g11 (sl zl 11) _ H0.cells _ (hg11.after hb) rfl rfl (by kernel_rfl) hK))) ?_|refine And.intro (sP (bk (v:=.agg C0.cells) (fun a u1 hb zl hd K Q hK=>op_load_row 41 (.tmp 12) rfl g12 (sl zl 12) _ C0.cells _ (hg12.after hb) rfl rfl (by kernel_rfl) hK))) ?_|refine And.intro (sP (bk (v:=.agg H1.cells) (fun a u1 hb zl hd K Q hK=>op_load_row 37 (.tmp 14) rfl g14 (sl zl 14) _ H1.cells _ (hg14.after hb) rfl rfl (by kernel_rfl) hK))) ?_|refine And.intro (sP (bk (v:=.agg C1.cells) (fun a u1 hb zl hd K Q hK=>op_load_row 41 (.tmp 15) rfl g15 (sl zl 15) _ C1.cells _ (hg15.after hb) rfl rfl (by kernel_rfl) hK))) ?_|refine And.intro (sP (bk (v:=.agg #[.int .i64 ts,.int .i64 tn]) (fun a u1 hb zl hd K Q hK=>op_load_row 31 (.tmp 18) rfl g18 (sl zl 18) _ #[.int .i64 ts,.int .i64 tn] _ (hg18.after hb) rfl rfl (by kernel_rfl) hK))) ?_|refine And.intro (sP (bcx (fun a w v hs=>px_put hs (by decide)) i0)) ?_|refine And.intro (sP (bcx (fun a w v hs=>px_put hs (by decide)) i1)) ?_|refine And.intro (sP (bcz (fun a w hd=>FItem.px_holds.1 (dep_get0 hd 4 (by kernel_rfl))) (by decide) (by decide) i2)) ?_|refine And.intro (sP (bcz (fun a w hd=>(by obtain⟨-,gx,g,-,h1,-,h2⟩:=FItem.py_holds.1 (dep_get0 hd 7 (by kernel_rfl));exact⟨g,h1,h2⟩)) (by decide) (by decide) i3)) ?_|refine And.intro (sP (bc (v:=.agg #[.int .i64 (ts+62135596800),.int .i32 tn]) (fun u1 hb1=>c_moment ts tn u1 (by have:=h.ts;omega) (by have:=h.tn;omega)))) ?_|refine And.intro ?_ ?_)) ?_
 clear i0 i1 i2 i3;intro a u1 hb hs hd zl hh;obtain⟨h25,h27,h30,h32,-⟩:=hh;obtain⟨s0,g0,e25,b0,a0,o0⟩:=FItem.px_holds.1 h25;obtain⟨X,gx,e27,bx,ix,vx,xt,hgx,fx⟩:=FItem.px_holds.1 h27;obtain⟨⟨s1,g1,e30,b1,a1,o1⟩,gx',g1',e27',e30',hlt1,-⟩:=FItem.py_holds.1 h30;obtain⟨g1'',e30'',V,gv,e32,bv,iv,vv,vt,hgv,fv⟩:=FItem.py_holds.1 h32;obtain rfl:gx=gx':=by rw[e27]at e27';simpa using e27'
 obtain rfl:g1=g1':=by rw[e30]at e30';simpa using e30'
 obtain rfl:g1=g1'':=by rw[e30]at e30'';simpa using e30''
 replace zl:=kp [33,35,36,41] zl;replace zl:LiveAll ((25,_)::(27,_)::(30,_)::(32,_)::_) a:=⟨e25,e27,e30,e32,zl⟩;clear h25 h27 h30 h32 e25 e27 e27' e30 e30' e30'' e32 hg11 hg12 hg14 hg15 hg18;replace hB:=bz_then hB hb;(try clear hup);have hup:=bup hB;clear hb;have hok:ChkOk s1 s0 X V g1 g0 gx gv per (ts+62135596800) tn d u1:=stp_chk h hC1.rd hC1.bt k0 k1 m0 m1 o1 o0 vx vv ⟨b1,a1,b0,a0,bv,iv,hKt.after hB,Nat.lt_of_lt_of_le hK0 hB.size⟩ bx ix (fun e=>(fx gx e).2 rfl) (fun e=>(fv gv e).2 rfl) xt vt (by omega) (fun e=>by have:=(fv gx e).1;omega);refine tc (c_chk s1 s0 X V g1 g0 gx gv per (ts+62135596800) tn d u1 hok) hs hd zl ?_;rintro _ u2 ⟨r,rfl,hr,u3,hG1,hG2⟩;refine⟨_,rfl,?_⟩;clear hs hd zl;intro a hs hd zl;have hB2:=GB.below2 (GB.below2 hB hG1 hgx) hG2 (by omega);obtain⟨e1,-,B,q,T,eC,hT⟩:=o1;rw[eC,e1,o0.hd]at hr;refine wW ?_;clear hs hd zl;intro a hs hd zl;refine wp_ret ?_;(repeat first|refine then_ret ?_|refine inBlock_ret ?_);exact end_tmp rfl hd (sl zl 22) ⟨r,X.V,V.V,T,B,q,rfl,vx,vv,hT,hr,hB2⟩
def fitsB(L:List Seat):Bool:=decide (L.length≤2147483647) && L.all fit2B
theorem fitsB_k{L:List Seat}(h:fitsB L=true):∀s∈L,s.k.size≤2147483647:=fun s hs=>by
 unfold fitsB at h;rw[Bool.and_eq_true,List.all_eq_true]at h;have:=h.2 s hs;unfold fit2B at this;rw[Bool.and_eq_true,decide_eq_true_eq,decide_eq_true_eq]at this;exact this.2
theorem c_zzFits1(L:List Seat)(A:Option Addr)(c:Nat)(w:World)(hL:SeatsAt w A L):
  Calls Tryz.prog 17 #[.slice A L.length c] w fun e w'=>e=.returned (.bool (fitsB L))∧Below w.heap.size w w':=by
 suffices h:∀w0,(SeatsAt w0 A L)→Below w0.heap.size w0 w→Calls Tryz.prog 17 #[.slice A L.length c] w fun e w'=>e=.returned (.bool (fitsB L))∧Below w0.heap.size w0 w' from h w hL (bz_refl w)
 clear hL;intro w0 hL hB;refine enter_abs Tryz.func17 rfl 18 rfl (by simp) ?_;intro a hs hd hargs;have s0:=hargs 0 _ rfl;clear hargs;refine wp_seq ?_;refine wp_region_list ?_;show wpList _ _ _ [_] _ _
 refine tail_op rfl (fun K hK=>?_);go_simp;refine hK _ _ ?_;clear hK K;refine act_put (d:=2) _ hs hd (by decide) [(0,_)] ⟨s0,trivial⟩ rfl ?_;clear hs hd s0;intro a hs hd zl;by_cases hbig:L.length≤2147483647
 ·have e0:decide (2147483647<L.length)=false:=decide_eq_false (by omega);have e0':decide ((2147483647:Int)<(L.length:Int))=false:=decide_eq_false (by omega);refine wn 3 ?_;clear hs hd zl;intro a hs hd zl;refine wp_cond_false (vL zl 0) ?_;refine wp_skip ?_;clear e0 e0';refine wn 3 ?_;clear hs hd zl;intro a hs hd zl;refine wp_block ?_;obtain⟨s10,s9,s8,-,-,-,-,-,-⟩:=zl;refine wp_loop (fun a w=>∃(k:Nat),SzIs a 18∧DfNil a∧LiveAll [(8,.slice A L.length c),(9,.int .i64 ((L.length:Nat):Int)),(10,.int .i64 ((k:Nat):Int))] a∧(k≤L.length)∧(Below w0.heap.size w0 w)∧(∀i x,i<k→L[i]?=some x→fit2B x=true))
   (fun a _=>L.length-(intOf (a.tmps.getD 10 undef)).toNat) ⟨0,hs,hd,⟨s8,s9,s10,trivial⟩,Nat.zero_le _,hB,(fun i x h=>absurd h (Nat.not_lt_zero i))⟩ ?_
  clear hs hd s8 s9 s10;rintro a w ⟨k,hs,hd,⟨s8,s9,s10,-⟩,hk,hB,hal⟩;have hm:(intOf (a.tmps.getD 10 undef)).toNat=k:=by rw[s10];simp[intOf]
  rw[hm];clear hm;have HAL:=Is.hid hal;clear hal;by_cases hlt:k<L.length
  ·have e1:decide (k<L.length)=true:=decide_eq_true hlt;have e2:decide ((k:Int)<(L.length:Int))=true:=decide_eq_true (by omega);have ew:IntKind.i64.wrap ((k:Int)+1)=((k+1:Nat):Int):=by rw[IntWalk.i64_in _ (by omega)];omega
   obtain⟨x,hxk⟩:∃x,L[k]?=some x:=⟨L[k]'hlt,List.getElem?_eq_getElem hlt⟩;have HX:=Is.hid hxk;obtain⟨b,o,rfl,hb0,hcells⟩:=(hL.after hB).at_ (by omega);have hck:=hcells k x hxk;clear hcells hxk;refine wp_seq ?_;refine wp_region_list ?_;show wpList _ _ _ [_] _ _
   refine tail_op rfl (fun K hK=>?_);have q9:=gd s9;have q10:=gd s10;go_simp;clear q9 q10;refine hK _ _ ?_;clear hK K;refine act_put (d:=11) _ hs hd (by decide) [(8,_),(9,_),(10,_)] ⟨s8,s9,s10,trivial⟩ rfl ?_;clear hs hd s8 s9 s10;intro a hs hd zl;refine wn 1 ?_;clear hs hd zl;intro a hs hd zl;refine tail_op rfl (fun K hK=>?_);have q12:=gL zl 0;have s12:=vL zl 0;refine op_load_cells 63 (.tmp 12) rfl b _ s12 x.cells _ hck rfl rfl (by kernel_rfl) ?_;clear q12;refine hK _ _ (tP hs hd zl ?_);clear hK K hs hd zl s12;intro a hs hd zl;refine tail_op rfl (fun K hK=>?_);go_simp;refine hK _ _ (tP hs hd zl ?_);clear hK K hs hd zl;intro a hs hd zl;refine tail_op rfl (fun K hK=>?_);have q4:=gL zl 0;have q13:=gL zl 1;have s4:=vL zl 0;have s13:=vL zl 1;refine op_store_row 63 (.tmp 4) (.tmp 13) rfl w.heap.size s4 _ s13 63 _ (Blk.new w _ _) rfl (by kernel_rfl) (seat_one x) ?_;clear q4 q13;refine hK _ _ ?_;clear hK K;change wpList _ _ _ _ a _;rw[setRow_alloc_at _ _ _ _ _ rfl];obtain⟨g5,hE⟩:∃B,Is w.heap.size B:=is_self _;generalize hw1:World.alloc w _=w1;have hg5:Blk w1 g5 63 x.cells.toArray:=by rw[← hw1,← hE.out];exact Blk.new w _ _
   have hB1:Below w.heap.size w w1:=by rw[← hw1];exact bz_alloc (bz_refl w) _
   replace hB:=bz_then hB hB1;clear s4 s13;obtain⟨s4,s13,s12,s11,s8,s9,s10,-⟩:=zl;rw[hE.out]at s4;clear hw1 hB1 hE;clear hck;clear s11 s12 s13;refine wp_seq ?_;refine wp_region_list ?_;show wpList _ _ _ [_,_,_] _ _
   refine tail_op rfl (fun K hK=>?_);have q4:=gd s4;refine op_load_row 63 (.tmp 4) rfl g5 s4 _ _ _ hg5 rfl rfl (by kernel_rfl) ?_;clear q4;refine hK _ _ ?_;clear hK K;refine act_put (d:=14) _ hs hd (by decide) [(4,_),(8,_),(9,_),(10,_)] ⟨s4,s8,s9,s10,trivial⟩ rfl ?_;clear hs hd s4 s8 s9 s10;intro a hs hd zl;refine tail_op rfl (fun K hK=>?_);have q14:=gL zl 0;go_simp;refine(c_zzFits2 x _).mono ?_;rintro e w3 ⟨rfl,hb2⟩;obtain⟨pb,hpb⟩:∃b,fit2B x=b:=⟨_,rfl⟩;have HPB:=Is.hid hpb;rw[hpb];clear hpb;clear q14;refine hK _ _ (tP hs hd zl ?_);clear hK K hs hd zl;intro a hs hd zl;replace hB:=bz_then hB hb2;clear hb2;refine wn 1 ?_;clear hs hd zl;intro a hs hd zl
   cases pb
   ·refine wn 1 ?_;clear hs hd zl;intro a hs hd zl;refine wp_ret ?_;repeat first|refine then_ret ?_|refine inBlock_ret ?_
    exact end_tmp rfl hd (vL zl 0) ⟨by rw[show fitsB L=false from(by unfold fitsB;rw[Bool.and_eq_false_iff];right;rw[List.all_eq_false];exact⟨x,List.mem_of_getElem? HX.out,by rw[HPB.out];decide⟩)],hB⟩
   refine wn 1 ?_;clear hs hd zl;intro a hs hd zl;refine tail_op rfl (fun K hK=>?_);have q17:=gL zl 0;go_simp;clear q17;refine hK _ _ ?_;clear hK K;obtain⟨s17,s16,-,-,-,s8,s9,s10,-⟩:=zl;refine act_put (d:=10) _ hs hd (by decide) [(8,_),(9,_),(16,_),(17,_)] ⟨s8,s9,s16,s17,trivial⟩ rfl ?_;clear hs hd s8 s9 s10 s16 s17;intro a hs hd zl;obtain⟨s10,s8,s9,-,-,-⟩:=zl;refine⟨⟨k+1,hs,hd,⟨s8,s9,s10,trivial⟩,hlt,hB,(fun i y hi hy=>by
    rcases Nat.lt_or_ge i k with h|h
    ·exact HAL.out i y h hy
    ·obtain rfl:i=k:=by omega
     rw[HX.out]at hy;injection hy with hy;rw[← hy];exact HPB.out)⟩,?_⟩
   rw[s10];simp[intOf];omega
  obtain rfl:k=L.length:=by omega
  have e1:decide (L.length<L.length)=false:=decide_eq_false (by omega);refine wp_seq ?_;refine wp_region_list ?_;show wpList _ _ _ [_] _ _
  refine tail_op rfl (fun K hK=>?_);have q9:=gd s9;have q10:=gd s10;go_simp;clear q9 q10;refine hK _ _ ?_;clear hK K;refine act_put (d:=11) _ hs hd (by decide) [(8,_),(9,_),(10,_)] ⟨s8,s9,s10,trivial⟩ rfl ?_;clear hs hd s8 s9 s10;intro a hs hd zl;refine wp_seq ?_;refine wp_cond_false (vL zl 0) ?_;refine wp_exit ?_;repeat refine then_exit ?_
  refine inBlock_exit ?_;refine wn 1 ?_;clear hs hd zl;intro a hs hd zl;refine wp_ret ?_;have s2:=vL zl 0;exact end_tmp rfl hd s2 ⟨by rw[show fitsB L=true from(by unfold fitsB;rw[Bool.and_eq_true,List.all_eq_true];exact⟨decide_eq_true hbig,fun s hs'=>by
   obtain⟨i,hi⟩:=List.getElem?_of_mem hs';exact HAL.out i s (List.getElem?_eq_some_iff.1 hi).1 hi⟩)],hB⟩
 have e0:decide (2147483647<L.length)=true:=decide_eq_true (by omega);have e0':decide ((2147483647:Int)<(L.length:Int))=true:=decide_eq_true (by omega);refine wn 3 ?_;clear hs hd zl;intro a hs hd zl;refine wp_cond_true (vL zl 0) ?_;refine wp_seq ?_;refine wp_region_list ?_;show wpList _ _ _ [_] _ _
 refine tail_op rfl (fun K hK=>?_);go_simp;refine hK _ _ ?_;clear hK K;obtain⟨s7,-,-,-,-,-⟩:=zl;refine act_put (d:=2) _ hs hd (by decide) [(7,_)] ⟨s7,trivial⟩ rfl ?_;clear hs hd s7;intro a hs hd zl;refine wp_ret ?_;repeat first|refine then_ret ?_|refine inBlock_ret ?_
 exact end_tmp rfl hd (vL zl 0) ⟨by rw[show fitsB L=false from(by unfold fitsB;rw[Bool.and_eq_false_iff];exact .inl (decide_eq_false hbig))],hB⟩
theorem findIdx_congr{α β:Type}{p:α→Bool}{q:β→Bool}:∀(A:List α) (B:List β),A.length=B.length→(∀(i:Nat) a b,A[i]?=some a→B[i]?=some b→p a=q b)→A.findIdx? p=B.findIdx? q
 | [],[],_,_=>rfl
 | [],_::_,h,_=>by cases h
 |_::_,[],h,_=>by cases h
 |a::A,b::B,h,hp=>by
  rw[List.findIdx?_cons,List.findIdx?_cons,hp 0 a b rfl rfl,findIdx_congr A B (by simpa using h) (fun i a b h1 h2=>hp (i+1) a b h1 h2)]
theorem adAt_seat{S:List Seat}{V:List Vl}(h:VlsOf S V)(s:Seat):adAt V (bytesOf s.a)=S.findIdx? (adB s):=by
 unfold adAt;refine findIdx_congr _ _ h.len (fun i v x h1 h2=>?_);have h3:=(h.of_ i x v h2 h1).ad;unfold adIs adB;rw[h3];by_cases he:x.a=s.a
 ·rw[he,(eqB_iff _ _).2 rfl];simp
 ·have h4:eqB x.a s.a=false:=by
   cases hq:eqB x.a s.a
   ·rfl
   ·exact absurd ((eqB_iff _ _).1 hq) he
  rw[h4];exact decide_eq_false (fun e=>he (bytesOf_inj e))
theorem find_self{Y:List Seat}(hn:(Y.map Seat.a).Nodup){k:Nat}{v:Seat}(hk:Y[k]?=some v):Y.findIdx? (adB v)=some k:=by
 have hkl:k<Y.length:=(List.getElem?_eq_some_iff.1 hk).1;rw[List.findIdx?_eq_some_iff_getElem];refine⟨hkl,?_,fun j hj=>?_⟩
 ·rw[(List.getElem?_eq_some_iff.1 hk).2];exact(eqB_iff _ _).2 rfl
 ·intro h;have h1:=(eqB_iff _ _).1 h;have hjl:j<Y.length:=by omega
  have h2:(Y.map Seat.a)[j]'(by simpa using hjl)=(Y.map Seat.a)[k]'(by simpa using hkl):=by
   rw[List.getElem_map,List.getElem_map,(List.getElem?_eq_some_iff.1 hk).2];exact h1
  have:=(List.getElem_inj hn).1 h2;omega
def SgPre(sec:Int)(v:Seat)(i:Nat)(s:Sg):Prop:=s.fl=1∧s.ad=⟨#[]⟩∧s.sec= -62135596800∧s.ns=0∧s.sg.l.length=0∨(s.fl=2∨s.fl=3)∧s.ad=v.a∧s.sec=sec+i∧s.ns=0
structure SgsPre(sec:Int)(L:List Seat)(T:List Sg):Prop where
 len:T.length=L.length
 of_:∀(i:Nat) v s,L[i]?=some v→T[i]?=some s→SgPre sec v i s
theorem Sn0s.pre{sec:Int}{nof:Prop}{L:List Seat}{S:List Sg}(h:Sn0s sec nof L S):SgsPre sec L S:=⟨h.len,fun i v s hv hs=>by
 have h1:=h.of_ i v s hv hs;by_cases hf:s.fl=1
 ·exact .inl ⟨hf,(h1.one hf).1,(h1.one hf).2,h1.ns,by rw[h1.sg];rfl⟩
 ·exact .inr ⟨by have:=h1.fl;omega,(h1.two hf).1,(h1.two hf).2,h1.ns⟩⟩
theorem SgsPre.get{sec:Int}{L:List Seat}{T:List Sg}(h:SgsPre sec L T){i:Nat}{s:Sg}(hs:T[i]?=some s):∃v,L[i]?=some v∧SgPre sec v i s:=by
 have hi:i<L.length:=by rw[← h.len];exact(List.getElem?_eq_some_iff.1 hs).1
 exact⟨_,List.getElem?_eq_getElem hi,h.of_ i _ s (List.getElem?_eq_getElem hi) hs⟩
theorem RsL.pre{C:Ic}{ch:ByteArray}{sec:Int}{L:List Seat}{T:List Sg}(h:SgsPre sec L C.S)(hR:RsL C ch L L.length T):SgsPre sec L T∧∀s∈T,s.fl≠1→s.sg.l.length=32:=by
 have key:∀(i:Nat) v s,L[i]?=some v→T[i]?=some s→∃s0,C.S[i]?=some s0∧Rs1 C ch v.k s0 s:=fun i v s hv hs=>by
  have hi:=(List.getElem?_eq_some_iff.1 hv).1;have hi':i<C.S.length:=by rw[h.len];exact hi
  exact⟨_,List.getElem?_eq_getElem hi',hR.done i _ v s hi (List.getElem?_eq_getElem hi') hv hs⟩
 have hlen:T.length=L.length:=hR.len.trans h.len;refine⟨⟨hlen,fun i v s hv hs=>?_⟩,fun s hs hf=>?_⟩
 ·obtain⟨s0,h0,h1⟩:=key i v s hv hs;rcases h.of_ i v s0 hv h0 with⟨a1,a2,a3,a4,a5⟩|⟨a1,a2,a3,a4⟩
  ·exact .inl ⟨h1.fl.trans a1,h1.ad.trans a2,h1.sec.trans a3,h1.ns.trans a4,by rw[h1.keep a1];exact a5⟩
  ·exact .inr ⟨by rw[h1.fl];exact a1,h1.ad.trans a2,h1.sec.trans a3,h1.ns.trans a4⟩
 ·obtain⟨i,hi⟩:=List.getElem?_of_mem hs;have hil:i<L.length:=by rw[← hlen];exact(List.getElem?_eq_some_iff.1 hi).1
  obtain⟨s0,h0,h1⟩:=key i _ s (List.getElem?_eq_getElem hil) hi;rw[h1.sig (by rw[← h1.fl];exact hf)];rfl
theorem SgPre.ok{sec:Int}{v:Seat}{i:Nat}{s:Sg}{w:World}(h:SgPre sec v i s)(hv:v.good)(hs:0≤sec∧sec≤4000000000)(hi:i≤1000)(hk:s.sg.ok w):SgOk s w:=by
 rcases h with⟨a1,a2,a3,a4,a5⟩|⟨a1,a2,a3,a4⟩
 ·exact⟨by omega,by omega,by omega,by rw[a2];decide,hk⟩
 ·exact⟨by omega,by omega,by omega,by rw[a2,hv.a];decide,hk⟩
theorem SgPre.wf{sec:Int}{v:Seat}{i:Nat}{s:Sg}(h:SgPre sec v i s)(hv:v.good)(hs:0≤sec∧sec≤4000000000)(hi:i≤1000)(hl:s.fl≠1→s.sg.l.length=32):SgWf s:=by
 rcases h with⟨a1,a2,a3,a4,a5⟩|⟨a1,a2,a3,a4⟩
 ·exact .inl ⟨a1,by rw[a2];rfl,a3,a4,a5⟩
 ·exact .inr ⟨a1,by rw[a2,hv.a],hl (by omega),by omega,by omega,a4⟩
theorem ic_at{C:Ic}{T:List Sg}{g c:Nat}{rest:List Value}{sec:Int}{L:List Seat}{gs:List Nat}{w:World}(hb:C.b.ok w)(hbp:C.bp.ok w)(hbt:0≤C.bt∧C.bt≤4294967295)(hrd:0≤C.rd∧C.rd≤2147483647)(hS:SgB w g T rest)(hT:SgsPre sec L T)(hG:Good L)(h0:0<L.length)(hn:L.length≤20)(hs:0≤sec∧sec≤4000000000)(hf:SgFar T gs w):IcAt ⟨C.ht,C.rd,C.b,C.bt,C.bp,some ⟨g,0,none⟩,c,T⟩ w:=
 ⟨hb,hbp,hbt,hrd,hS.rows,fun s hm=>by
  obtain⟨i,hi⟩:=List.getElem?_of_mem hm;obtain⟨v,hv,hp⟩:=hT.get hi;have hil:=(List.getElem?_eq_some_iff.1 hv).1;exact hp.ok (hG.get hv) hs (by omega) (hf s hm).1,by show 0<T.length;rw[hT.len];exact h0,by show T.length≤20;rw[hT.len];exact hn⟩
structure Mix(sec:Int)(Y:List Seat)(ls:List Bool)(k:Nat)(T:List Sg):Prop where
 pre:SgsPre sec Y T
 lie:∀(i:Nat) s,i<k→T[i]?=some s→s.fl≠1→ls.getD i false=true
theorem Mix.keep{sec:Int}{Y:List Seat}{ls:List Bool}{k:Nat}{T:List Sg}(h:Mix sec Y ls k T)(hl:ls.getD k false=true):Mix sec Y ls (k+1) T:=⟨h.pre,fun i s hi hs hf=>by
 rcases Nat.lt_or_ge i k with hk|hk
 ·exact h.lie i s hk hs hf
 ·obtain rfl:i=k:=by omega
  exact hl⟩
structure Hd.full(H:Hd):Prop where
 bh:H.bh.l.length=32
 bp:H.bp.l.length=32
 hh:∀i,i<8→(H.hh i).l.length=32
theorem Hd.full.sized{H:Hd}(h:H.full):H.sized:=⟨.inr h.bh,.inr h.bp,fun i hi=>.inr (h.hh i hi)⟩
theorem Hd.full.ne{H:Hd}(h:H.full):(((H.hh 2).l.length:Int) == 0)=false:=by rw[h.hh 2 (by decide)];decide
theorem Headed.full{ch:ByteArray}{ht sec ns:Int}{X Y:List Seat}{pr:ByteArray}{salt:List Int}{H:Hd}(h:Headed ch ht sec ns X Y pr salt H):H.full:=by
 obtain⟨bh,bp,hh,rfl,h1,h2,_,_,_,h6⟩:=h;exact⟨by show bh.l.length=32;rw[h1];exact sha_len _,by show bp.l.length=32;rw[h2];exact sha_len _,h6⟩
theorem Headed.num{ch:ByteArray}{ht sec ns:Int}{X Y:List Seat}{pr:ByteArray}{salt:List Int}{H:Hd}(h:Headed ch ht sec ns X Y pr salt H)(h1:0≤ht∧ht≤9223372036854775807)(h2:0≤sec∧sec≤4000000000)(h3:0≤ns∧ns≤999999999)(h4:ch.size≤2200000000)(h5:pr.size≤2200000000):H.num:=by
 obtain⟨bh,bp,hh,rfl,_⟩:=h;exact⟨show(0:Int)≤11∧(11:Int)≤9223372036854775807 by decide,show(0:Int)≤0∧(0:Int)≤9223372036854775807 by decide,h1,h2,h3,show(0:Int)≤1∧(1:Int)≤4294967295 by decide,h4,h5⟩
section
variable{P:Program}{ops:Array Oper}{Q:Exit→Act→World→Prop}
theorem wpAny_flow5(its:List (Option (Nat×Value)))(th:List Nat)(Th:Nat→Act→World→Prop)(a0:Act)(hck:flowOk ops (its.map sReads)=true)(hch:chainOk ops th=true)
  (hstep:∀(i:Nat) (o:Oper) (s:Option (Nat×Value)),ops[i]?=some o→its[i]?=some s→∀a w c,Th c a w→(∀k,rankOf th i=some k→c=k)→(∀k,boundOf ops th i=some k→c≤k)→Same ops a0 a→(∀j∈deps o,∀(t:Option (Nat×Value)),its[j]?=some t→SHolds t a)→
   ∀K:Act→World→Prop,(∀v w',SHolds s (a.put o.dst v)→Th (after (rankOf th i) c) (a.put o.dst v) w'→K (a.put o.dst v) w')→if Region.wanted o (yielded ops a.tmps)=true then o.wp P a w K Q else K (a.put o.dst undef) w)
  (hend:∀a w,Th th.length a w→Same ops a0 a→(∀(i:Nat) (s:Option (Nat×Value)),its[i]?=some s→SHolds s a)→Q .normal a w):
  ∀(fuel:Nat) (listed:Array Bool) (a:Act) (w:World) (c:Nat),listed.size=ops.size→(List.range ops.size).countP (fun i=>!listed.getD i true)≤fuel→Th c a w→c≤th.length→(∀k i,th[k]?=some i→(listed.getD i false=true↔k<c))→Same ops a0 a→
   (∀(i:Nat) (o:Oper) (s:Option (Nat×Value)),ops[i]?=some o→its[i]?=some s→listed.getD i false=true→(∀j∈deps o,listed.getD j false=true)∧SHolds s a)→wpAny P .any ops Q fuel listed a w:=by
 have hlen:its.length=ops.size:=by
  simp only[flowOk,Bool.and_eq_true,beq_iff_eq,List.length_map]at hck;exact hck.1
 have hchain:∀k i,th[k]?=some i→i<ops.size∧rankOf th i=some k∧∀j o,0<k→th[k-1]?=some j→ops[i]?=some o→j∈deps o:=by
  intro k i hk;have hkl:k<th.length:=(List.getElem?_eq_some_iff.1 hk).1;have h:=List.all_eq_true.1 hch k (List.mem_range.2 hkl);rw[hk]at h;simp only[Bool.and_eq_true,decide_eq_true_eq,beq_iff_eq]at h;refine⟨h.1.1,h.1.2,fun j o h0 hj ho=>?_⟩;obtain⟨k,rfl⟩:∃m,k=m+1:=⟨k-1,by omega⟩;have h2:=h.2;simp only[Nat.add_sub_cancel]at hj;simp only[hj,ho]at h2;simpa using h2
 have hall:∀(listed:Array Bool) (a:Act) (w:World) (c:Nat),listed.size=ops.size→Region.ready .any ops listed=[]→Th c a w→c≤th.length→(∀k i,th[k]?=some i→(listed.getD i false=true↔k<c))→Same ops a0 a→
   (∀(i:Nat) (o:Oper) (s:Option (Nat×Value)),ops[i]?=some o→its[i]?=some s→listed.getD i false=true→(∀j∈deps o,listed.getD j false=true)∧SHolds s a)→Q .normal a w:=by
  intro listed a w c hls hr hT hc hcl hs hinv;have hdone:∀i,i<ops.size→listed.getD i false=true:=by
   intro i;induction i using Nat.strongRecOn with
   |_ i ih=>
    intro hi;by_cases hli:listed.getD i false=true
    ·exact hli
    ·exfalso;obtain⟨o,ho⟩:∃o,ops[i]?=some o:=⟨ops[i],Array.getElem?_eq_getElem hi⟩;have hd:=flow_deps hck ho;have hmem:i∈Region.ready .any ops listed:=by
      unfold Region.ready;rw[List.mem_filter];refine⟨List.mem_range.2 hi,?_⟩;have h1:listed.getD i true=false:=by
       have hi':i<listed.size:=by omega
       simp[Array.getD_eq_getD_getElem?,hi']at hli⊢;exact hli
      rw[h1,ho];simp only[Bool.not_false,Bool.true_and,Option.map_some,Option.getD_some,Array.all_eq_true'];intro e he;by_cases hbd:Region.binds .any e=true
      ·have hlt:=hd _ (dep_mem he hbd);simp[hbd,ih e.on hlt (by omega)]
      ·simp at hbd;simp[hbd]
     rw[hr]at hmem
     cases hmem
  have hcE:c=th.length:=by
   rcases Nat.lt_or_ge c th.length with h|h
   ·have h1:th[c]?=some th[c]:=List.getElem?_eq_getElem h;have h2:=(hcl c _ h1).1 (hdone _ (hchain c _ h1).1);omega
   ·omega
  subst hcE;refine hend a w hT hs fun i s hit=>?_
  have hi:i<ops.size:=by
   have:=(List.getElem?_eq_some_iff.1 hit).1;omega
  exact(hinv i ops[i] s (Array.getElem?_eq_getElem hi) hit (hdone i hi)).2
 intro fuel;induction fuel with
 |zero=>
  intro listed a w c hls hcn hT hc hcl hs hinv;have hr:Region.ready .any ops listed=[]:=by
   unfold Region.ready;rw[List.filter_eq_nil_iff];intro i hi;have h0:(List.range ops.size).countP (fun i=>!listed.getD i true)=0:=by omega
   have:=List.countP_eq_zero.1 h0 i hi;simp at this;simp[this]
  exact⟨hr,hall listed a w c hls hr hT hc hcl hs hinv⟩
 |succ fuel ih=>
  intro listed a w c hls hcn hT hc hcl hs hinv;refine⟨fun hr=>hall listed a w c hls hr hT hc hcl hs hinv,fun i hi=>?_⟩;unfold Region.ready at hi;rw[List.mem_filter]at hi;obtain⟨hir,hi2⟩:=hi;have hin:i<ops.size:=List.mem_range.1 hir;obtain⟨o,ho⟩:∃o,ops[i]?=some o:=⟨ops[i],Array.getElem?_eq_getElem hin⟩;obtain⟨s,hit⟩:∃s,its[i]?=some s:=⟨its[i]'(by omega),List.getElem?_eq_getElem (by omega)⟩;rw[ho]at hi2;simp only[Bool.and_eq_true,Option.map_some,Option.getD_some,Array.all_eq_true']at hi2;obtain⟨hun,hed⟩:=hi2;have hunl:listed.getD i true=false:=by simpa using hun
  have hunf:listed.getD i false=false:=getD_both hunl;have hdl:∀j∈deps o,listed.getD j false=true:=by
   intro j hj;obtain⟨e,he,hb',rfl⟩:=dep_edge hj;have:=hed e he;simpa [hb']using this
  have hrank:∀k,rankOf th i=some k→c=k∧th[k]?=some i:=by
   intro k hk;unfold rankOf at hk;rw[List.findIdx?_eq_some_iff_getElem]at hk;obtain⟨hkl,hke,_⟩:=hk;have hk':th[k]?=some i:=by
    rw[List.getElem?_eq_getElem hkl]
    congr 1
    simpa using hke
   have h1:¬ k<c:=fun h=>by
    have:=(hcl k i hk').2 h;rw[hunf]at this
    cases this
   refine⟨?_,hk'⟩;rcases Nat.eq_zero_or_pos k with h0|h0
   ·omega
   ·have hj:th[k-1]?=some th[k-1]:=List.getElem?_eq_getElem (by omega);have hd:=(hchain k i hk').2.2 _ o h0 hj ho;have:=(hcl (k-1) _ hj).1 (hdl _ hd);omega
  have hbound:∀k,boundOf ops th i=some k→c≤k:=by
   intro k hk;unfold boundOf at hk;have h1:=List.find?_some hk;rcases hj:th[k]? with _|j
   ·simp[hj]at h1
   ·rcases ho':ops[j]? with _|o'
    ·simp[hj,ho']at h1
    ·simp only[hj,Option.bind_some,ho',List.contains_eq_mem,decide_eq_true_eq]at h1;refine Nat.le_of_not_lt fun hlt=>?_
     have hl:=(hcl k j hj).2 hlt;have hjo:j<ops.size:=(Array.getElem?_eq_some_iff.1 ho').1;have:=(hinv j o' _ ho' (List.getElem?_eq_getElem (by omega)) hl).1 i h1;rw[hunf]at this
     cases this
  refine wpOp_step ho fun K' hK=>?_
  refine hstep i o s ho hit a w c hT (fun k hk=>(hrank k hk).1) hbound hs (fun j hj t hjt=>?_) K' (fun v w' hitw hT'=>hK _ _ ?_)
  ·have hjn:j<ops.size:=Nat.lt_trans (flow_deps hck ho j hj) hin;exact(hinv j ops[j] t (Array.getElem?_eq_getElem hjn) hjt (hdl j hj)).2
  ·have hset:∀k,(listed.setIfInBounds i true).getD k false=true→k=i∨listed.getD k false=true:=by
    intro k hk;by_cases hki:k=i
    ·exact .inl hki
    ·right
     simpa [Array.getD_eq_getD_getElem?,Array.getElem?_setIfInBounds_ne (Ne.symm hki)]using hk
   have hkeep:∀k,listed.getD k false=true→(listed.setIfInBounds i true).getD k false=true:=by
    intro k hk;by_cases hki:k=i
    ·subst hki;simp[Array.getD_eq_getD_getElem?,show k<listed.size by omega]
    ·simpa [Array.getD_eq_getD_getElem?,Array.getElem?_setIfInBounds_ne (Ne.symm hki)]using hk
   have hself:(listed.setIfInBounds i true).getD i false=true:=by simp[Array.getD_eq_getD_getElem?,show i<listed.size by omega]
   refine ih _ _ _ (after (rankOf th i) c) (by simpa using hls) ?_ hT' ?_ ?_ (hs.put ho v) ?_
   ·have hlt:(List.range ops.size).countP (fun k=>!(listed.setIfInBounds i true).getD k true)<(List.range ops.size).countP (fun k=>!listed.getD k true):=by
     refine countP_lt_of (x:=i) _ ?_ hir (by simp[hunl]) (by simp[Array.getD_eq_getD_getElem?,show i<listed.size by omega]);intro k hk hk';by_cases hki:k=i
     ·subst hki;simp[hunl]
     ·simpa [Array.getD_eq_getD_getElem?,Array.getElem?_setIfInBounds_ne (Ne.symm hki)]using hk'
    omega
   ·cases hr:rankOf th i with
    |none=>exact hc
    |some k=>
     obtain⟨rfl,hk⟩:=hrank k hr;have:=(List.getElem?_eq_some_iff.1 hk).1;show c+1≤_
     omega
   ·intro k j hkj
    cases hr:rankOf th i with
    |none=>
     have hji:j≠i:=by
      rintro rfl;rw[(hchain k j hkj).2.1]at hr
      cases hr
     show _↔k<c
     rw[← hcl k j hkj];simp[Array.getD_eq_getD_getElem?,Array.getElem?_setIfInBounds_ne (Ne.symm hji)]
    |some k'=>
     obtain⟨rfl,hk'⟩:=hrank k' hr;show _↔k<c+1
     by_cases hji:j=i
     ·subst hji;have:some k=some c:=(hchain k j hkj).2.1.symm.trans hr;injection this with this;subst this;simp[hself]
     ·have hkc:k≠c:=by
       rintro rfl;rw[hkj]at hk';injection hk' with hk';exact hji hk'
      have:=hcl k j hkj;have e:(listed.setIfInBounds i true).getD j false=listed.getD j false:=by simp[Array.getD_eq_getD_getElem?,Array.getElem?_setIfInBounds_ne (Ne.symm hji)]
      rw[e,this];omega
   ·intro k ok kt hok hkt hkl;rcases hset k hkl with rfl|hkl'
    ·rw[ho]at hok;rw[hit]at hkt;injection hok with hok;injection hkt with hkt;subst hok hkt;exact⟨fun j hj=>hkeep j (hdl j hj),hitw⟩
    ·obtain⟨hkd,hkh⟩:=hinv k ok kt hok hkt hkl';refine⟨fun j hj=>hkeep j (hkd j hj),?_⟩
     cases kt with
     |none=>trivial
     |some p=>
      obtain⟨t,u⟩:=p;have hne:o.dst≠some t:=by
       intro hdt;have htr:t∈(((its.map sReads)[k]?).getD []):=by simp[List.getElem?_map,hkt,sReads]
       rcases flow_reads hck hok ho htr hdt with h|h
       ·subst h;rw[hunf]at hkl'
        cases hkl'
       ·have:=hkd i h;rw[hunf]at this
        cases this
      show _=u
      rw[put_getD _ _ _ _ hne];exact hkh
def StepOk5(P:Program)(ops:Array Oper)(Q:Exit→Act→World→Prop)(F:List (Nat×Value))(sz:Nat)(Th:Nat→Act→World→Prop)(its:List (Option (Nat×Value)))(r:Option Nat×Option Nat)(o:Oper)(s:Option (Nat×Value)):Prop:=
 ∀a w c,Th c a w→(∀k,r.1=some k→c=k)→(∀k,r.2=some k→c≤k)→SzIs a sz→LiveAll F a→SDeps its a (deps o)→
  ∀K:Act→World→Prop,(∀v w',SHolds s (a.put o.dst v)→Th (after r.1 c) (a.put o.dst v) w'→K (a.put o.dst v) w')→if Region.wanted o (yielded ops a.tmps)=true then o.wp P a w K Q else K (a.put o.dst undef) w
def StepsOk5(P:Program)(ops:Array Oper)(Q:Exit→Act→World→Prop)(F:List (Nat×Value))(sz:Nat)(Th:Nat→Act→World→Prop)(all:List (Option (Nat×Value))):List (Option Nat×Option Nat)→List Oper→List (Option (Nat×Value))→Prop
 |r::rs,o::os,s::ss=>StepOk5 P ops Q F sz Th all r o s∧StepsOk5 P ops Q F sz Th all rs os ss
 |_,_,_=>True
theorem StepsOk5.get{F:List (Nat×Value)}{sz:Nat}{Th:Nat→Act→World→Prop}{all:List (Option (Nat×Value))}:∀(rs:List (Option Nat×Option Nat)) (os:List Oper) (ss:List (Option (Nat×Value))),StepsOk5 P ops Q F sz Th all rs os ss→∀(i:Nat) (r:Option Nat×Option Nat) (o:Oper) (s:Option (Nat×Value)),rs[i]?=some r→os[i]?=some o→ss[i]?=some s→StepOk5 P ops Q F sz Th all r o s
 | [],_,_,_,i,r,o,s,hr,_,_=>by simp at hr
 |_::_,[],_,_,i,r,o,s,_,ho,_=>by simp at ho
 |_::_,_::_,[],_,i,r,o,s,_,_,hs=>by simp at hs
 |r::rs,o::os,s::ss,h,0,r',o',s',hr,ho,hs=>by
  simp at hr ho hs;subst hr ho hs;exact h.1
 |r::rs,o::os,s::ss,h,i+1,r',o',s',hr,ho,hs=>StepsOk5.get rs os ss h.2 i r' o' s' (by simpa using hr) (by simpa using ho) (by simpa using hs)
theorem wp_flow5_use{id:Nat}(F:List (Nat×Value))(its:List (Option (Nat×Value)))(th:List Nat)(rs:List (Option Nat×Option Nat))(Th:Nat→Act→World→Prop){a0:Act}{W:World}(sz:Nat)(hm:P.follows .mixedOrders=true)(hck:flowOk ops (its.map sReads)=true)(hch:chainOk ops th=true)(hrs:(List.range ops.size).map (fun i=>(rankOf th i,boundOf ops th i))=rs)
  (hlk:liveOk ops (F.map (·.1))=true)(hsz:SzIs a0 sz)(hdf:DfNil a0)(hl:LiveAll F a0)(h0:Th 0 a0 W.drew)(hstep:StepsOk5 P ops Q F sz Th its rs ops.toList its)
  (hend:∀a w,Th th.length a w→SzIs a sz→DfNil a→LiveAll F a→SAll a its→Q .normal a w):(Code.region id ops true).wp P Q a0 W:=
 wp_region_any hm (wpAny_flow5 its th Th a0 hck hch
  (fun i o s ho hit a w c hT hr hbd hs hd K hK=>StepsOk5.get rs _ _ hstep i (rankOf th i,boundOf ops th i) o s (by
    have hi:i<ops.size:=(Array.getElem?_eq_some_iff.1 ho).1;rw[← hrs];simp[hi]) (by simpa using ho) hit a w c hT hr hbd ⟨hs.1.trans hsz.out⟩ (live_of_same hs F hlk hl) (sdeps_of _ hd) K hK)
  (fun a w hT hs hh=>hend a w hT ⟨hs.1.trans hsz.out⟩ ⟨hs.2.1.trans hdf.out⟩ (live_of_same hs F hlk hl) (sall_of its hh))
  ops.size (Array.replicate ops.size false) a0 _ 0 (by simp) (Nat.le_trans (List.countP_le_length) (by simp)) h0 (Nat.zero_le _)
  (fun k i _=>⟨fun h=>absurd h (by rw[getD_replicate_false];decide),fun h=>absurd h (Nat.not_lt_zero _)⟩) ⟨rfl,rfl,fun _ _=>rfl⟩ (fun i o s ho hit hl=>by
   have hi:i<ops.size:=(Array.getElem?_eq_some_iff.1 ho).1;simp[Array.getD_eq_getD_getElem?,hi]at hl))
theorem b5{F:List (Nat×Value)}{sz:Nat}{Th:Nat→Act→World→Prop}{its:List (Option (Nat×Value))}{r:Option Nat}{o:Oper}{d:Nat}{v:Value}(hst:∀a w c,Th c a w→Th c (a.put (some d) v) w)(hg:o.guard=none:=by exact rfl)(hdst:o.dst=some d:=by exact rfl)(hlt:d<sz:=by decide)
  (h:∀(a:Act) (w:World) (c:Nat),Th c a w→(∀k,r=some k→c≤k)→LiveAll F a→SDeps its a (deps o)→∀(K:Act→World→Prop) (Q:Exit→Act→World→Prop),K (a.put (some d) v) w→o.wp P a w K Q:=by
   (intro a w c hT hr zl hd K Q hK;have q:=gA zl;have q1:=hTup c a w hT;simp only[GetAll]at q;simp[deps,Region.binds,sdG,sdN,shG]at hd;go_simp;exact hK)):
  StepOk5 P ops Q F sz Th its (none,r) o (some (d,v)):=fun a w c hT _ hr hs hl hd K hK=>step_plain hg (h a w c hT hr hl hd K Q (by rw[hdst]at hK;exact hK _ _ (put_eq hs hlt) (hst a w c hT)))
theorem k5{F:List (Nat×Value)}{sz:Nat}{Th:Nat→Act→World→Prop}{its:List (Option (Nat×Value))}{k:Nat}{r2:Option Nat}{o:Oper}
  (h:∀(a:Act) (w:World),Th k a w→SzIs a sz→LiveAll F a→SDeps its a (deps o)→∀(K:Act→World→Prop) (Q:Exit→Act→World→Prop),(∀v w',Th (k+1) (a.put o.dst v) w'→K (a.put o.dst v) w')→o.wp P a w K Q)(hg:o.guard=none:=by exact rfl):
  StepOk5 P ops Q F sz Th its (some k,r2) o none:=fun a w c hT hr _ hs hl hd K hK=>by
 obtain rfl:=hr k rfl;exact step_plain hg (h a w hT hs hl hd K Q fun v w' hT'=>hK v w' trivial hT')
theorem f5{id:Nat}{F:List (Nat×Value)}(its:List (Option (Nat×Value)))(th:List Nat)(Th:Nat→Act→World→Prop){rs:List (Option Nat×Option Nat)}{a0:Act}{W:World}{sz:Nat}(hsz:SzIs a0 sz)(hdf:DfNil a0)(hl:LiveAll F a0)(h0:Th 0 a0 W.drew)
  (hrs:(List.range ops.size).map (fun i=>(rankOf th i,boundOf ops th i))=rs)
  (hstep:StepsOk5 P ops Q F sz Th its rs ops.toList its)
  (hend:∀a w,Th th.length a w→SzIs a sz→DfNil a→LiveAll F a→SAll a its→Q .normal a w)
  (hm:P.follows .mixedOrders=true:=by kernel_rfl)(hck:flowOk ops (its.map sReads)=true:=by kernel_rfl)(hch:chainOk ops th=true:=by kernel_rfl)
  (hlk:liveOk ops (F.map (·.1))=true:=by kernel_rfl):(Code.region id ops true).wp P Q a0 W:=
 wp_flow5_use F its th rs Th sz hm hck hch hrs hlk hsz hdf hl h0 hstep hend
end
end Go.Proofs.YtjhnnjhaklohhaaGreatDoor
