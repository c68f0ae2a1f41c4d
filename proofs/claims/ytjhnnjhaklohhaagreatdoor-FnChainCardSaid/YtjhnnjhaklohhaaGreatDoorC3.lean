/- One more row put behind, where no byte lies in the block. FnChain: what a commit that all of a set signed is worth. FnChain: lists of lists that fit; two sets that clash; a seat that is in a set. Headers and commits that are put behind one another: what is kept while a block without bytes turns. FnChain: two headers of the chain, and the step from one to the other. FnChain: what the region that lays a header and its commit has come to. -/
import Derived.Test.YtjhnnjhaklohhaaGreatDoorC2
import Derived.Test.YtjhnnjhaklohhaaGreatDoorC1
import Derived.Test.YtjhnnjhaklohhaaGreatDoorM1
set_option linter.unusedVariables false
set_option linter.unusedSimpArgs false
set_option maxHeartbeats 4000000
set_option maxRecDepth 100000
namespace Go.Proofs.YtjhnnjhaklohhaaGreatDoor
open Go.RowKit
def NuV(v:Value):Prop:=∀x,v≠.int .u8 x
theorem noU8_mem{cs:Array Value}(h:∀v∈cs.toList,NuV v):NoU8 cs:=fun i x e=>by
 rw[← Array.getElem?_toList]at e;exact h _ (List.mem_of_getElem? e) x rfl
theorem noU8_get{cs:Array Value}(h:NoU8 cs):∀v∈cs.toList,NuV v:=fun v hv x e=>by
 obtain⟨i,hi⟩:=List.getElem?_of_mem hv;rw[Array.getElem?_toList]at hi;exact h i x (hi.trans (congrArg some e))
def NbA(p:Value→Prop)(w:World)(A:Option Addr):Prop:=∀g T cs,blkOf A=some g→Blk w g T cs→∀v∈cs.toList,p v
theorem Blk.uniq{w:World}{g:Nat}{T T':TypeId}{cs cs':Array Value}(h:Blk w g T cs)(h':Blk w g T' cs'):cs=cs'∧T=T':=by
 unfold Blk at h h';rw[h]at h';injection h' with h';injection h' with h1 h2 h3;exact⟨h1,h2⟩
theorem NbA.none(p:Value→Prop)(w:World):NbA p w none:=fun g T cs h=>by cases h
theorem NbA.after{p:Value→Prop}{w w':World}{A:Option Addr}(h:NbA p w A)(hl:∀g,blkOf A=some g→g<w.heap.size)(hb:Below w.heap.size w w'):NbA p w' A:=fun g T cs hg hB=>h g T cs hg (by
 unfold Blk at hB⊢;rw[← hb.block g (hl g hg)];exact hB)
theorem zero_mem{z:Array Value}{n:Nat}:∀u∈(Builtin.zeroCells z n).toList,u∈z.toList:=by
 intro u hu;unfold Builtin.zeroCells at hu;rw[Array.toList_map,List.mem_map]at hu;obtain⟨i,hi,rfl⟩:=hu;have hi':i<n*z.size:=by simpa using hi
 have hz:0<z.size:=by
  rcases Nat.eq_zero_or_pos z.size with h|h
  ·rw[h]at hi';omega
  ·exact h
 have hm:=Nat.mod_lt i hz;rw[getElem!_pos z (i % z.size) hm];exact Array.getElem_mem_toList hm
theorem op_app_rowN{o:Oper}{a:Act}{w:World}{Q:Exit→Act→World→Prop}{K:Act→World→Prop}{t e:TypeId}(s x:Operand)(ho:o.op=.call {callee:=.builtin .append,args:=#[s,x],argTypes:=#[t,t]})
  {z:Value}{k bytes:Nat}(ht:Tryz.prog.underlying t=some (.slice e))(hi:(Tryz.prog.info? e).map (fun i=>(i.zero,i.size,i.bytes))=some (some z,k,bytes))(hzs:z.cells.size=k)(hk:0<k)
  {p:Value→Prop}{base g c c2:Nat}{A:Option Addr}{R:List (List Value)}{r:List Value}{t2:TypeId}(hs:a.eval s=.slice A R.length c)(hx:a.eval x=.slice (some ⟨g,0,none⟩) 1 c2)(hown:OwnR e k base w A c R)(hg:Blk w g t2 r.toArray)(hr:r.length=k)(h1:∀u∈r,u.oneCell'=true)(hlen:R.length≤1000)(hby:bytes≤10000)(hbase:base≤w.heap.size)
  (hnb:NbA p w A)(hrn:∀u∈r,p u)(hzn:∀u∈z.cells.toList,p u)
  (h:∀(A':Option Addr) (c':Nat) (w':World),OwnR e k base w' A' c' (R++[r])→Below base w w'→w.grownBy w' (blkOf A)→(blkOf A'=blkOf A∨blkOf A'=some w.heap.size)→NbA p w' A'→K (a.put o.dst (.slice A' (R++[r]).length c')) w'):o.wp Tryz.prog a w K Q:=by
 have hnews:∀j u,r[j]?=some u→w.cell? ((⟨g,0,none⟩:Addr).add j)=some u:=by
  intro j u hu;rw[addr_add,Nat.zero_add,hg.cell,List.getElem?_toArray];exact hu
 have hzn':∀n,∀u∈(Builtin.zeroCells z.cells n).toList,p u:=fun n u hu=>hzn u (zero_mem u hu)
 have hne:∀(A':Option Addr) (c':Nat) (w':World),(Builtin.append_ #[t,t] o.type #[.slice A R.length c,.slice (some ⟨g,0,none⟩) 1 c2]).run Tryz.prog w=.ok (.slice A' (R++[r]).length c') w'→NbA p w' A':=by
  intro A' c' w' hrun;obtain⟨i0,hi0,hz0,hz1,hz2⟩:=info_parts hi;subst hz1;rcases hown.form with⟨rfl,rfl,rfl⟩|⟨g0,cur,rfl,hge,hlt,hb0,hle,hsz,htk⟩
  ·have h2:=run_append_nil (P:=Tryz.prog) w t o.type e i0 z ht hi0 hz0 ⟨g,0,none⟩ 1 c2 r (by rw[hr,Nat.one_mul]) hnews (by decide) (by decide) (by rw[hz2];omega);have h3:=h2.symm.trans hrun;injection h3 with h4 h5;injection h4 with h6;intro g' T cs hg' hB';rw[← h6]at hg';have hg':w.heap.size=g':=by simpa [blkOf]using hg'
   subst hg';rw[← h5]at hB';have h7:Blk (w.drew.alloc (.cells (r.toArray++Builtin.zeroCells z.cells (grownCap w 1 0 e-1)) e)) w.heap.size e _:=heap_alloc_new w.drew _;obtain⟨rfl,-⟩:=h7.uniq hB';refine fun u hu=>?_
   rw[Array.toList_append]at hu;rcases List.mem_append.1 hu with hu|hu
   ·exact hrn u (by simpa using hu)
   ·exact hzn' _ u hu
  ·have hcu:=hnb g0 e cur rfl hb0;by_cases hroom:R.length+1≤c
   ·have h2:=run_append_room (P:=Tryz.prog) w t o.type e i0 ht hi0 g0 R.length c cur hb0 ⟨g,0,none⟩ 1 c2 r (by rw[hr,Nat.one_mul]) hnews h1 hroom (by
     rw[hr,hsz];have:(R.length+1)*i0.size≤c*i0.size:=Nat.mul_le_mul_right _ hroom;rw[Nat.succ_mul]at this;exact this)
    have h3:=h2.symm.trans hrun;injection h3 with h4 h5;injection h4 with h6;intro g' T cs hg' hB';rw[← h6]at hg';have hg':g0=g':=by simpa [blkOf]using hg'
    subst hg';rw[← h5]at hB';have h7:Blk (w.setRow g0 (cur.toList.take (R.length*i0.size)++r++cur.toList.drop (R.length*i0.size+r.length)).toArray) g0 e (cur.toList.take (R.length*i0.size)++r++cur.toList.drop (R.length*i0.size+r.length)).toArray:=hb0.setRow _;obtain⟨rfl,-⟩:=h7.uniq hB';refine fun u hu=>?_
    simp only[List.mem_append]at hu;rcases hu with (hu|hu)|hu
    ·exact hcu u (List.mem_of_mem_take hu)
    ·exact hrn u hu
    ·exact hcu u (List.mem_of_mem_drop hu)
   ·have h2:=run_append_grow (P:=Tryz.prog) w t o.type e i0 z ht hi0 hz0 ⟨g0,0,none⟩ R.length c R.flatten (flatten_len hown.1) (hown.2.cells (g:=g0) rfl) ⟨g,0,none⟩ 1 c2 r (by rw[hr,Nat.one_mul]) hnews (by omega) (by omega) (growslice_fits (by omega) (by
     rw[hz2];have:(R.length+1)*bytes≤1001*10000:=Nat.mul_le_mul (by omega) hby
     omega))
    have h3:=h2.symm.trans hrun;injection h3 with h4 h5;injection h4 with h6;intro g' T cs hg' hB';rw[← h6]at hg';have hg':w.heap.size=g':=by simpa [blkOf]using hg'
    subst hg';rw[← h5]at hB';have h7:Blk (w.drew.alloc (.cells (R.flatten.toArray++r.toArray++Builtin.zeroCells z.cells (grownCap w (R.length+1) c e-(R.length+1))) e)) w.heap.size e _:=heap_alloc_new w.drew _;obtain⟨rfl,-⟩:=h7.uniq hB';refine fun u hu=>?_
    simp only[Array.toList_append,List.mem_append]at hu;rcases hu with (hu|hu)|hu
    ·have hu:u∈R.flatten:=hu;rw[← htk]at hu;exact hcu u (List.mem_of_mem_take hu)
    ·exact hrn u hu
    ·exact hzn' _ u hu
 obtain⟨i0,hi0,hz0,hz1,hz2⟩:=info_parts hi;have hbb:(R.length+1)*bytes≤140737488355328:=by
  have:(R.length+1)*bytes≤1001*10000:=Nat.mul_le_mul (by omega) hby
  omega
 obtain⟨v',w',hrun,h2,h3,_,h5⟩:=run_append_own_at (P:=Tryz.prog) w base t o.type e i0 z k bytes ht hi0 hz0 hz1 hz2 hzs hk _ _ _ hown.2 ⟨g,0,none⟩ 1 c2 r (by rw[hr,Nat.one_mul]) hnews h1 (by unfold maxLen;omega) hbb hbase;rw[ownBlock_slice]at h3 h5;have hv:∃A' c',v'=.slice A' (R++[r]).length c':=by
  rcases h2.2 with⟨h,h0⟩|⟨g,cap,cur,h,_⟩
  ·exact⟨Option.none,0,by rw[h,List.length_append,List.length_singleton,h0]⟩
  ·exact⟨_,cap,by rw[h,List.length_append,List.length_singleton]⟩
 obtain⟨A',c',rfl⟩:=hv;have hB:Below base w w':=⟨h3.os,h3.tape,h3.output,h3.size,fun k' hk'=>h3.block k' (Nat.lt_of_lt_of_le hk' hbase) (by
  rcases hown.form with⟨rfl,_,_⟩|⟨g',cur,rfl,hge,_⟩
  ·simp[blkOf]
  ·simp[blkOf];omega)⟩
 have hn:=hne A' c' w' hrun;unfold Oper.wp execOp;simp only[ho,resolve,invoke,builtin,Sem.run_bind,Sem.run_pure,Result.andThen_ok,List.map_toArray,List.map_cons,List.map_nil,hs,hx,hrun];rw[ownBlock_slice]at h5;refine h A' c' w' ⟨fun x hx=>?_,?_⟩ hB h3 h5 hn
 ·rcases List.mem_append.1 hx with h|h
  ·exact hown.1 x h
  ·rw[List.mem_singleton.1 h];exact hr
 ·rw[List.length_append,List.length_singleton,List.flatten_append,List.flatten_singleton]at *;exact h2
structure Full(H:Hd)(Y:List Seat)(D:Ic):Prop where
 len:D.S.length=Y.length
 of_:∀(i:Nat) v s,Y[i]?=some v→D.S[i]?=some s→s.fl=2∧s.ad=v.a∧s.sg.l=psL (bytesOf v.k) (vsbL D.ht D.rd D.b.l D.bt D.bp.l (s.sec+62135596800) s.ns H.ch)
theorem Full.mk'{H:Hd}{Y:List Seat}{C:Ic}{T:List Sg}{A:Option Addr}{c:Nat}{nof:Prop}(h:Sn0s H.sec nof Y C.S)(hn:nof)(hR:RsL C H.ch Y Y.length T):Full H Y ⟨C.ht,C.rd,C.b,C.bt,C.bp,A,c,T⟩:=
 ⟨hR.len.trans h.len,fun i v s hv hs=>by
  have hi:=(List.getElem?_eq_some_iff.1 hv).1;have hi':i<C.S.length:=by rw[h.len];exact hi
  have h0:=List.getElem?_eq_getElem hi';have h1:=h.of_ i v _ hv h0;have h2:=hR.done i _ v s hi h0 hv hs;have hf:=h1.nf hn;refine⟨h2.fl.trans hf,h2.ad.trans (h1.two (by rw[hf];decide)).1,?_⟩;rw[h2.sig (by rw[hf];decide),hf,h2.sec,h2.ns];show psL _ (msgL true _ _ _ _ _ _ _ _)=_
  rw[msgL_vsb]⟩
def pwA(X:List Seat)(y:Seat):Int:=match(X.findIdx? (adB y)).bind (X[·]?)with|some x=>x.p|none=>0
def pwS(X:List Seat):List Seat→Int
 | []=>0
 |y::Y=>pwA X y+pwS X Y
def hasA(Y:List Seat)(x:Seat):Bool:=Y.any (adB x)
def shP(Y:List Seat):List Seat→Int
 | []=>0
 |x::X=>(if hasA Y x then x.p else 0)+shP Y X
theorem adB_iff(s x:Seat):adB s x=true↔x.a=s.a:=eqB_iff _ _
theorem adB_comm(s x:Seat):adB s x=adB x s:=by
 cases h:adB x s
 ·cases h':adB s x
  ·rfl
  ·rw[(adB_iff x s).2 ((adB_iff s x).1 h').symm]at h
   cases h
 ·exact(adB_iff s x).2 ((adB_iff x s).1 h).symm
theorem pwA_cons(x:Seat)(X:List Seat)(y:Seat):pwA (x::X) y=if adB y x then x.p else pwA X y:=by
 unfold pwA;rw[List.findIdx?_cons]
 cases h:adB y x
 ·simp only[Bool.false_eq_true,if_false]
  cases X.findIdx? (adB y) <;> simp
 ·simp
theorem pwS_cons(x:Seat)(X:List Seat)(hx:x.a∉X.map Seat.a):∀Y:List Seat,(Y.map Seat.a).Nodup→pwS (x::X) Y=(if hasA Y x then x.p else 0)+pwS X Y
 | [],_=>by simp[pwS,hasA]
 |y::Y,hn=>by
  rw[List.map_cons,List.nodup_cons]at hn;have ih:=pwS_cons x X hx Y hn.2;have e1:pwS (x::X) (y::Y)=pwA (x::X) y+pwS (x::X) Y:=rfl;have e2:pwS X (y::Y)=pwA X y+pwS X Y:=rfl;have e3:hasA (y::Y) x=(adB x y || hasA Y x):=by simp[hasA]
  rw[e1,e2,e3,ih,pwA_cons,adB_comm y x]
  cases h:adB x y
  ·simp only[Bool.false_eq_true,if_false,Bool.false_or];omega
  ·have ha:=(adB_iff _ _).1 h;have hz:pwA X y=0:=by
    unfold pwA;have:X.findIdx? (adB y)=none:=by
     rw[List.findIdx?_eq_none_iff];intro u hu
     cases hq:adB y u
     ·rfl
     ·exact absurd (List.mem_map.2 ⟨u,hu,((adB_iff _ _).1 hq).trans ha⟩) hx
    rw[this];rfl
   have hy:hasA Y x=false:=by
    unfold hasA;rw[List.any_eq_false];intro u hu hq;exact hn.1 (List.mem_map.2 ⟨u,hu,((adB_iff _ _).1 hq).trans ha.symm⟩)
   rw[hz,hy];simp
theorem pwS_shP:∀(X Y:List Seat),(X.map Seat.a).Nodup→(Y.map Seat.a).Nodup→pwS X Y=shP Y X
 | [],Y,_,_=>by
  induction Y with
  |nil=>rfl
  |cons y Y ih=>
   show pwA [] y+pwS [] Y=0
   rename_i h1 h2;rw[List.map_cons,List.nodup_cons]at h2;rw[ih h2.2];rfl
 |x::X,Y,h1,h2=>by
  rw[List.map_cons,List.nodup_cons]at h1;rw[pwS_cons x X h1.1 Y h2,pwS_shP X Y h1.2 h2];rfl
theorem shP_snoc(Y:List Seat):∀(X:List Seat) (k:Nat) (x:Seat),X[k]?=some x→shP Y (X.take (k+1))=shP Y (X.take k)+(if hasA Y x then x.p else 0)
 | [],k,x,h=>by simp at h
 |u::X,0,x,h=>by
  simp only[List.getElem?_cons_zero,Option.some.injEq]at h;subst h;simp[shP]
 |u::X,k+1,x,h=>by
  rw[List.getElem?_cons_succ]at h;have:=shP_snoc Y X k x h;rw[List.take_succ_cons,List.take_succ_cons];show _+shP Y (X.take (k+1))=_+shP Y (X.take k)+_
  rw[this];omega
theorem shP_le(Y:List Seat):∀(X:List Seat),Good X→0≤shP Y X∧shP Y X≤1000000*X.length
 | [],_=>by simp[shP]
 |x::X,h=>by
  have h1:=(h x (List.mem_cons_self ..)).p;have h2:=shP_le Y X fun u hu=>h u (List.mem_cons_of_mem _ hu)
  show 0≤_+shP Y X∧_+shP Y X≤_
  rw[List.length_cons];split <;> omega
theorem pwS_snoc(X:List Seat):∀(Y:List Seat) (k:Nat) (y:Seat),Y[k]?=some y→pwS X (Y.take (k+1))=pwS X (Y.take k)+pwA X y
 | [],k,x,h=>by simp at h
 |u::Y,0,x,h=>by
  simp only[List.getElem?_cons_zero,Option.some.injEq]at h;subst h;simp[pwS]
 |u::Y,k+1,x,h=>by
  rw[List.getElem?_cons_succ]at h;have:=pwS_snoc X Y k x h;rw[List.take_succ_cons,List.take_succ_cons];show _+pwS X (Y.take (k+1))=_+pwS X (Y.take k)+_
  rw[this];omega
theorem pwA_self{X:List Seat}(hn:(X.map Seat.a).Nodup){k:Nat}{x:Seat}(hk:X[k]?=some x):pwA X x=x.p:=by
 unfold pwA;rw[find_self hn hk];simp[hk]
theorem pwS_self{X:List Seat}(hn:(X.map Seat.a).Nodup):∀k,k≤X.length→pwS X (X.take k)=total (X.take k)
 |0,_=>rfl
 |k+1,h=>by
  have hk:=List.getElem?_eq_getElem (show k<X.length by omega);rw[pwS_snoc X X k _ hk,pwS_self hn k (by omega),total_snoc X k _ hk,pwA_self hn hk]
theorem tal_full{look:Bool}{O Y:List Seat}{V:List Vl}{T:List CS}(hV:VlsOf O V)(hl:T.length=Y.length)
  (h:∀(k:Nat) v c,Y[k]?=some v→T[k]?=some c→c.fl=2∧plc look V k c=O.findIdx? (adB v)):∀k,k≤Y.length→tal look V T k=pwS O (Y.take k)
 |0,_=>rfl
 |k+1,hk=>by
  have hy:=List.getElem?_eq_getElem (show k<Y.length by omega);have ht:=List.getElem?_eq_getElem (show k<T.length by omega);have ih:=tal_full hV hl h k (by omega);obtain⟨hf,hp⟩:=h k _ _ hy ht;rw[tal_succ,pwS_snoc O Y k _ hy,ih,ht]
  congr 1
  simp only[];unfold pwr pwA;rw[if_pos hf,hp]
  cases hfi:O.findIdx? (adB Y[k])with
  |none=>rfl
  |some j=>
   have hj:=(List.findIdx?_eq_some_iff_getElem.1 hfi).1;have hj':j<V.length:=by rw[hV.len];exact hj
   simp only[Option.bind_some];rw[List.getElem?_eq_getElem hj,List.getElem?_eq_getElem hj'];exact(hV.of_ j _ _ (List.getElem?_eq_getElem hj) (List.getElem?_eq_getElem hj')).p
def NoClash(X Y:List Seat):Prop:=∀x∈X,∀y∈Y,x.a=y.a→x.k=y.k
theorem NoClash.self{X:List Seat}(hn:(X.map Seat.a).Nodup):NoClash X X:=fun x hx y hy h=>by
 obtain⟨i,hi⟩:=List.getElem?_of_mem hx;obtain⟨j,hj⟩:=List.getElem?_of_mem hy;have h1:=find_self hn hi;have h2:=find_self hn hj;have:adB x=adB y:=by
  funext u
  unfold adB;rw[h]
 rw[this,h2]at h1;injection h1 with h1;subst h1;rw[hi]at hj;injection hj with hj;rw[hj]
theorem Full.get{H:Hd}{Y:List Seat}{D:Ic}{T:List CS}(h:Full H Y D)(hT:CssOf D.S T){i:Nat}{c:CS}(hc:T[i]?=some c):∃v,Y[i]?=some v∧c.fl=2∧c.ad.l=bytesOf v.a∧c.sg.l=psL (bytesOf v.k) (vsbL D.ht D.rd D.b.l D.bt D.bp.l c.sec c.ns H.ch):=by
 obtain⟨s,hs,ho⟩:=hT.get hc;have hi:i<Y.length:=by rw[← h.len];exact(List.getElem?_eq_some_iff.1 hs).1
 have hv:=List.getElem?_eq_getElem hi;obtain⟨h1,h2,h3⟩:=h.of_ i _ s hv hs;exact⟨_,hv,ho.fl.trans h1,by rw[ho.ad,h2],by rw[ho.sg,h3,ho.sec,ho.ns]⟩
theorem Full.sig{look:Bool}{H:Hd}{O Y:List Seat}{D:Ic}{V:List Vl}{T:List CS}{B:Option Addr}{q:Nat}(h:Full H Y D)(hT:CssOf D.S T)(hV:VlsOf O V)(hl:look=true→O=Y)(hc:NoClash O Y):¬ BadSig look V (icMk D B q T) H.ch:=by
 rintro⟨i,j,s,v,h1,h2,h3,h4,h5⟩;obtain⟨y,hy,-,ha,hsg⟩:=h.get hT h1;have hj:j<O.length:=by rw[← hV.len];exact(List.getElem?_eq_some_iff.1 h4).1
 have hO:=List.getElem?_eq_getElem hj;have hvo:=hV.of_ j _ v hO h4;refine h5 ?_;rw[hsg,hvo.ky];show _=psL _ (vsbL D.ht D.rd D.b.l D.bt D.bp.l s.sec s.ns H.ch)
 congr 2
 cases look with
 |true=>
  have hoy:=hl rfl;subst hoy;have:j=i:=by unfold plc at h3;simpa using h3.symm
  subst this;rw[hO]at hy;injection hy with hy;rw[hy]
 |false=>
  have h3:adAt V s.ad.l=some j:=h3;obtain⟨v',hv',he⟩:=adAt_get h3;rw[h4]at hv';injection hv' with hv';subst hv';rw[hvo.ad,ha]at he;exact(hc _ (List.mem_of_getElem? hO) _ (List.mem_of_getElem? hy) (bytesOf_inj he)).symm
theorem next_ok{H:Hd}{X Y:List Seat}{D:Ic}{VX VY:List Vl}{T:List CS}{B:Option Addr}{q:Nat}{t0 r:Int}(h:Full H Y D)(hT:CssOf D.S T)(hY:SetOk Y)(h0:0<Y.length)(hVY:VlsOf Y VY)(hr:OutVer VX VY (icMk D B q T) H.ch (t0+1) t0 r):r=0:=by
 have hTl:T.length=Y.length:=hT.len.trans h.len;have ht:=tal_full (look:=true) hVY hTl (fun k v c hv hc=>by
  obtain⟨y,hy,hf,_,_⟩:=h.get hT hc;exact⟨hf,(find_self hY.nodup hv).symm⟩) Y.length (Nat.le_refl _)
 rw[pwS_self hY.nodup _ (Nat.le_refl _),List.take_length]at ht;have hp:0<total Y:=by
  obtain⟨y,Y',rfl⟩:∃y Y',Y=y::Y':=by cases Y with|nil=>cases h0|cons y Y'=>exact⟨y,Y',rfl⟩
  have h1:=(hY.good y (List.mem_cons_self ..)).p;have h2:=total_le Y' fun u hu=>hY.good u (List.mem_cons_of_mem _ hu)
  unfold total at *;rw[List.map_cons,List.sum_cons];omega
 rcases hr with⟨_,hr⟩|⟨hr,_⟩
 ·rcases hr with⟨hr,_⟩|⟨_,hr|hr⟩
  ·exact hr
  ·have hr:tal true VY T T.length≤sumP VY*2 / 3:=hr;rw[hTl,ht,hVY.sum]at hr;omega
  ·exact absurd hr (h.sig hT hVY (fun _=>rfl) (NoClash.self hY.nodup))
 ·exact absurd rfl hr
theorem far_ok{H:Hd}{X Y:List Seat}{D:Ic}{VX VY:List Vl}{T:List CS}{B:Option Addr}{q:Nat}{t1 t0 r:Int}(h:Full H Y D)(hT:CssOf D.S T)(hX:SetOk X)(hY:SetOk Y)(h0:0<Y.length)(hVX:VlsOf X VX)(hVY:VlsOf Y VY)(hc:NoClash X Y)(ht:t0+1<t1)(hr:OutVer VX VY (icMk D B q T) H.ch t1 t0 r):r=if shP Y X≤total X / 3 then 3 else 0:=by
 have hTl:T.length=Y.length:=hT.len.trans h.len;have htl:=tal_full (look:=false) hVX hTl (fun k v c hv hc=>by
  obtain⟨y,hy,hf,ha,_⟩:=h.get hT hc;rw[hv]at hy;injection hy with hy;subst hy;refine⟨hf,?_⟩;unfold plc;rw[ha];exact adAt_seat hVX v) Y.length (Nat.le_refl _)
 rw[List.take_length,pwS_shP X Y hX.nodup hY.nodup]at htl;have hs:=h.sig (look:=false) (B:=B) (q:=q) hT hVX (fun e=>by cases e) hc;have h2:∀r,OutTal VY (icMk D B q T) H.ch r→r=0:=fun r hr=>next_ok (VX:=VX) (t0:=0) (X:=X) h hT hY h0 hVY (.inl ⟨rfl,hr⟩)
 rcases hr with⟨e,_⟩|⟨_,hr⟩
 ·omega
 rcases hr with⟨e,_⟩|⟨_,hr⟩
 ·omega
 rcases hr with⟨hr,hr2⟩|⟨hr,hr2⟩|⟨hr,_⟩
 ·have hr:sumP VX / 3<tal false VX T T.length:=hr;rw[hTl,htl,hVX.sum]at hr;rw[if_neg (by omega)];exact h2 r hr2
 ·have hr:tal false VX T T.length≤sumP VX / 3:=hr;rw[hTl,htl,hVX.sum]at hr;rw[if_pos hr];exact hr2
 ·exact absurd hr hs
theorem low_ok{X Y:List Vl}{C:Cm}{ch:ByteArray}{t1 t0 r:Int}(ht:t1≤t0)(hr:OutVer X Y C ch t1 t0 r):r=2:=by
 rcases hr with⟨e,_⟩|⟨_,hr⟩
 ·omega
 rcases hr with⟨_,e⟩|⟨e,_⟩
 ·exact e
 ·omega
structure Nl where
 A:Option Addr
 S:List Seat
 c:Nat
def Nl.v(r:Nl):Value:=.slice r.A r.S.length r.c
def slRows(R:List Nl):List (List Value):=R.map fun r=>[r.v]
theorem slRows_get{R:List Nl}{k:Nat}{r:Nl}(h:R[k]?=some r):(slRows R)[k]?=some [r.v]:=by simp[slRows,h]
structure SlsAt(w:World)(A:Option Addr)(R:List Nl):Prop where
 rows:RowsAt w A 1 (slRows R)
 at_:∀r∈R,SeatsAt w r.A r.S
theorem SlsAt.after{w w':World}{A:Option Addr}{R:List Nl}(h:SlsAt w A R)(hb:Below w.heap.size w w'):SlsAt w' A R:=⟨h.rows.after hb,fun r hr=>(h.at_ r hr).after hb⟩
theorem SlsAt.cell{w:World}{A:Option Addr}{R:List Nl}(h:SlsAt w A R){k:Nat}{r:Nl}(hk:R[k]?=some r):∃b o,A=some ⟨b,o,none⟩∧b<w.heap.size∧w.cell? ⟨b,o+k,none⟩=some r.v:=by
 obtain⟨_,b,o,e,hl,hc⟩:=h.rows k _ (slRows_get hk);exact⟨b,o,e,hl,by simpa using hc 0 _ rfl⟩
theorem c_fits3(R:List Nl)(A:Option Addr)(c:Nat)(w:World)(h:SlsAt w A R):
  Calls Tryz.prog 5 #[.slice A R.length c] w fun e w'=>∃q:Bool,e=.returned (.bool q)∧(q=true→R.length≤2147483647∧∀r∈R,fitsB r.S=true)∧Below w.heap.size w w':=by
 obtain⟨n,hN⟩:∃n,Is R.length n:=is_self _;rw[hN.out];refine en (sz:=18) rfl rfl rfl fun a hs hd zl=>?_;have hB:=bz_refl w
 by_cases h1:2147483647<n
 ·have e1:decide (2147483647<n)=true:=decide_eq_true h1;have e1':decide ((2147483647:Int)<(n:Int))=true:=decide_eq_true (by omega);refine wW ?_;clear hs hd zl;intro a hs hd zl;refine wp_ret ?_;(repeat first|refine then_ret ?_|refine inBlock_ret ?_);exact end_tmp rfl hd (sl zl 2) ⟨false,rfl,(fun e=>by cases e),hB⟩
 have e1:decide (2147483647<n)=false:=decide_eq_false h1;have e1':decide ((2147483647:Int)<(n:Int))=false:=decide_eq_false (by omega);refine wW ?_;clear hs hd zl;intro a hs hd zl;refine wp_loop (fun a u=>∃(k:Nat),SzIs a 18∧DfNil a∧LiveAll [(2,.bool false),(8,.slice A n c),(9,.int .i64 ((n:Nat):Int)),(10,.int .i64 ((k:Nat):Int))] a∧k≤n∧Below w.heap.size w u∧∀i r,i<k→R[i]?=some r→fitsB r.S=true)
  (fun a _=>n-(intOf (a.tmps.getD 10 undef)).toNat) ⟨0,hs,hd,ks zl,Nat.zero_le _,hB,fun i x h=>absurd h (Nat.not_lt_zero i)⟩ ?_
 clear hs hd zl hB e1 e1';rintro a u ⟨k,hs,hd,zl,hk,hB,hno⟩;have hup:=bup hB;have HNO:=Is.hid hno;clear hno;have hm:(intOf (a.tmps.getD 10 undef)).toNat=k:=by rw[sl zl 10];simp[intOf]
 rw[hm];clear hm;by_cases hlt:k<n
 ·have e1:decide (k<n)=true:=decide_eq_true hlt;have ew:IntKind.i64.wrap ((k:Int)+1)=((k+1:Nat):Int):=by rw[IntWalk.i64_in _ (by omega)];omega
  obtain⟨r,hRk⟩:∃r,R[k]?=some r:=⟨R[k]'(by rw[hN.out];exact hlt),List.getElem?_eq_getElem _⟩;obtain⟨b,o,eA,hb0,hc⟩:=h.cell hRk;have hra:=h.at_ r (List.mem_of_getElem? hRk);unfold Nl.v at hc;rw[eA]at zl;have HA:=Is.hid eA;have HR:=Is.hid hRk;have hz:=c_zzFits1 r.S r.A r.c u (hra.after hB);obtain⟨m,hM⟩:∃n,Is r.S.length n:=is_self _;rw[hM.out]at hc hz;obtain⟨q,hq⟩:∃b,fitsB r.S=b:=⟨_,rfl⟩;rw[hq]at hz;have HQ:=Is.hid hq;clear eA hRk hq;refine wW ?_;clear hs hd zl;intro a hs hd zl;refine tc hz hs hd zl ?_;rintro _ u ⟨rfl,hb⟩;refine⟨_,rfl,?_⟩;clear hs hd zl;intro a hs hd zl;replace hB:=bz_then hB hb;(try clear hup);have hup:=bup hB;clear hb
  cases q with
  |false=>
   refine wW ?_;clear hs hd zl;intro a hs hd zl;refine wp_ret ?_;(repeat first|refine then_ret ?_|refine inBlock_ret ?_);exact end_tmp rfl hd (sl zl 2) ⟨false,rfl,(fun e=>by cases e),hB⟩
  |true=>
   refine wW ?_;clear hs hd zl;intro a hs hd zl;rw[← HA.out]at zl;refine⟨⟨k+1,hs,hd,ks zl,hlt,hB,fun i y hi hy=>?_⟩,?_⟩
   ·rcases Nat.lt_or_ge i k with h|h
    ·exact HNO.out i y h hy
    ·obtain rfl:i=k:=by omega
     rw[HR.out]at hy;injection hy with hy;subst hy;exact HQ.out
   ·rw[sl zl 10];simp[intOf];omega
 ·obtain rfl:k=n:=by omega
  have e1:decide (k<k)=false:=decide_eq_false (by omega);refine wW ?_;clear hs hd zl;intro a hs hd zl;refine wp_exit ?_;(repeat refine then_exit ?_);refine inBlock_exit ?_;refine wW ?_;clear hs hd zl;intro a hs hd zl;refine wp_ret ?_;(repeat first|refine then_ret ?_|refine inBlock_ret ?_);exact end_tmp rfl hd (sl zl 2) ⟨true,rfl,fun _=>⟨by omega,fun r hr=>by
   obtain⟨i,hi⟩:=List.getElem?_of_mem hr;exact HNO.out i r (by rw[← hN.out];exact(List.getElem?_eq_some_iff.1 hi).1) hi⟩,hB⟩
def ClOk(F:FuncId)(q:Addr)(p:Seat→Bool)(S:List Seat)(w:World):Prop:=∀x∈S,∀u,Below w.heap.size w u→Calls Tryz.prog F #[.agg x.cells.toArray,.pointer (some q)] u fun e w'=>e=.returned (.bool (p x))∧Below u.heap.size u w'
theorem ClOk.after{F:FuncId}{q:Addr}{p:Seat→Bool}{S:List Seat}{w w':World}(h:ClOk F q p S w)(hb:Below w.heap.size w w'):ClOk F q p S w':=fun x hx u hu=>h x hx u (bz_then hb hu)
theorem c_idxG(F:FuncId)(q:Addr)(p:Seat→Bool)(S:List Seat)(A:Option Addr)(c:Nat)(w:World)(hS:SeatsAt w A S)(hn:S.length≤1000)(hE:∀args w,(callFunc F args).run Tryz.prog w=.ok (.enter F args) w)(hF:ClOk F q p S w):
  Calls Tryz.prog 19 #[.slice A S.length c,.func (.func F) #[] #[.pointer (some q)]] w fun e w'=>e=.returned (.int .i64 (idxB p S))∧Below w.heap.size w w':=by
 obtain⟨n,hN⟩:∃n,Is S.length n:=is_self _;rw[hN.out]at hn⊢;refine en (sz:=19) rfl rfl rfl fun a hs hd zl=>?_;have hB:=bz_refl w
 refine wW ?_;clear hs hd zl;intro a hs hd zl;refine wp_loop (fun a u=>∃(k:Nat),SzIs a 19∧DfNil a∧LiveAll [(0,.slice A n c),(1,.func (.func F) #[] #[.pointer (some q)]),(7,.int .i64 ((n:Nat):Int)),(8,.int .i64 ((k:Nat):Int))] a∧k≤n∧Below w.heap.size w u∧∀i x,i<k→S[i]?=some x→p x=false)
  (fun a _=>n-(intOf (a.tmps.getD 8 undef)).toNat) ⟨0,hs,hd,ks zl,Nat.zero_le _,hB,fun i x h=>absurd h (Nat.not_lt_zero i)⟩ ?_
 clear hs hd zl hB;rintro a u ⟨k,hs,hd,zl,hk,hB,hno⟩;have hup:=bup hB;have HNO:=Is.hid hno;clear hno;have hm:(intOf (a.tmps.getD 8 undef)).toNat=k:=by rw[sl zl 8];simp[intOf]
 rw[hm];clear hm;by_cases hlt:k<n
 ·have e1:decide (k<n)=true:=decide_eq_true hlt;have ew:IntKind.i64.wrap ((k:Int)+1)=((k+1:Nat):Int):=by rw[IntWalk.i64_in _ (by omega)];omega
  obtain⟨x,hSk⟩:∃s,S[k]?=some s:=⟨S[k]'(by rw[hN.out];exact hlt),List.getElem?_eq_getElem _⟩;obtain⟨b,o,eA,hb0,hcs⟩:=(hS.after hB).at_ (by rw[hN.out];omega);have hck:=hcs k x hSk;have hfx:=hF x (List.mem_of_getElem? hSk) u hB;clear hcs;rw[eA]at zl;have HA:=Is.hid eA;have HS:=Is.hid hSk;clear eA hSk;refine wW ?_;clear hs hd zl;intro a hs hd zl;refine tk hs hd zl (fun K Q hK=>op_load_cells 48 (.tmp 14) rfl b _ (sl zl 14) x.cells _ hck rfl rfl (by kernel_rfl) hK) ?_;clear hs hd zl;intro a hs hd zl;clear hck hb0;refine tc hfx hs hd zl ?_;rintro _ u ⟨rfl,hb⟩;refine⟨_,rfl,?_⟩;clear hs hd zl;intro a hs hd zl;replace hB:=bz_then hB hb;(try clear hup);have hup:=bup hB;clear hb;clear hfx
  cases hp:p x with
  |true=>
   rw[hp]at zl;refine wW ?_;clear hs hd zl;intro a hs hd zl;refine wp_ret ?_;(repeat first|refine then_ret ?_|refine inBlock_ret ?_);exact end_tmp rfl hd (sl zl 4) ⟨by rw[idxB_at HS.out hp HNO.out],hB⟩
  |false=>
   rw[hp]at zl;refine wW ?_;clear hs hd zl;intro a hs hd zl;rw[← HA.out]at zl;refine⟨⟨k+1,hs,hd,ks zl,hlt,hB,fun i y hi hy=>?_⟩,?_⟩
   ·rcases Nat.lt_or_ge i k with h|h
    ·exact HNO.out i y h hy
    ·obtain rfl:i=k:=by omega
     rw[HS.out]at hy;injection hy with hy;subst hy;exact hp
   ·rw[sl zl 8];simp[intOf];omega
 ·obtain rfl:k=n:=by omega
  have e1:decide (k<k)=false:=decide_eq_false (by omega);refine wW ?_;clear hs hd zl;intro a hs hd zl;refine wp_exit ?_;(repeat refine then_exit ?_);refine inBlock_exit ?_;refine wW ?_;clear hs hd zl;intro a hs hd zl;refine wp_ret ?_;(repeat first|refine then_ret ?_|refine inBlock_ret ?_);exact end_tmp rfl hd (sl zl 4) ⟨by rw[idxB_none (fun i x hi hx=>HNO.out i x (by rw[← hN.out];exact hi) hx)],hB⟩
theorem c_conG(F:FuncId)(q:Addr)(p:Seat→Bool)(S:List Seat)(A:Option Addr)(c:Nat)(w:World)(hS:SeatsAt w A S)(hn:S.length≤1000)(hE:∀args w,(callFunc F args).run Tryz.prog w=.ok (.enter F args) w)(hF:ClOk F q p S w):
  Calls Tryz.prog 14 #[.slice A S.length c,.func (.func F) #[] #[.pointer (some q)]] w fun e w'=>e=.returned (.bool (S.any p))∧Below w.heap.size w w':=by
 have hi:=c_idxG F q p S A c w hS hn hE hF;have hany:=idxB_any p S;obtain⟨r,hr⟩:∃r,Is (idxB p S) r:=is_self _;obtain⟨n,hN⟩:∃n,Is S.length n:=is_self _;rw[hr.out]at hi hany;rw[hN.out]at hi⊢;rw[← hany];clear hany;refine en (sz:=9) rfl rfl rfl fun a hs hd zl=>?_;have hB:=bz_refl w
 refine wW ?_;clear hs hd zl;intro a hs hd zl;refine tc hi hs hd zl ?_;rintro _ u ⟨rfl,hb⟩;refine⟨_,rfl,?_⟩;clear hs hd zl;intro a hs hd zl;replace hB:=bz_then hB hb;(try clear hup);have hup:=bup hB;clear hb;refine wW ?_;clear hs hd zl;intro a hs hd zl;refine wp_ret ?_;(repeat first|refine then_ret ?_|refine inBlock_ret ?_);exact end_tmp rfl hd (sl zl 4) ⟨rfl,hB⟩
theorem c_ch2(x s:Seat)(g:Nat)(w:World)(hg:Blk w g 48 s.cells.toArray):Calls Tryz.prog 15 #[.agg x.cells.toArray,.pointer (some ⟨g,0,none⟩)] w fun e w'=>e=.returned (.bool (adB s x))∧Below w.heap.size w w':=by
 obtain⟨b,hb⟩:∃b,eqB x.a s.a=b:=⟨_,rfl⟩;unfold adB;rw[hb];unfold eqB at hb;refine en (sz:=9) rfl rfl rfl fun a hs hd zl=>?_;have hB:=bz_refl w
 refine wp_seq (wp_region_list ?_);refine ta (cs:=x.cells.toArray) hs hd zl ?_;intro q u hq hqe hb';clear hs hd zl;intro a hs hd zl;have d0:u.cell? ⟨g,0,none⟩=some (.string s.a):=(hg.after hb').cell 0;replace hB:=bz_then hB hb';clear hb';have hup:=bup hB;have c0:u.cell? ⟨q,0,none⟩=some (.string x.a):=hq.cell 0;refine wW ?_;clear hs hd zl;intro a hs hd zl;refine wp_ret ?_;(repeat first|refine then_ret ?_|refine inBlock_ret ?_);exact end_tmp rfl hd (sl zl 3) ⟨rfl,hB⟩
def claB2(x y:Seat):Bool:=eqB x.a y.a && !(eqB x.k y.k)
theorem c_cla2(y x:Seat)(g:Nat)(w:World)(hg:Blk w g 48 x.cells.toArray):Calls Tryz.prog 34 #[.agg y.cells.toArray,.pointer (some ⟨g,0,none⟩)] w fun e w'=>e=.returned (.bool (claB2 x y))∧Below w.heap.size w w':=by
 obtain⟨b,hb⟩:∃b,eqB x.a y.a=b:=⟨_,rfl⟩;obtain⟨b2,hb2⟩:∃b,eqB x.k y.k=b:=⟨_,rfl⟩;unfold claB2;rw[hb,hb2];unfold eqB at hb hb2;refine en (sz:=16) rfl rfl rfl fun a hs hd zl=>?_;have hB:=bz_refl w
 refine wp_seq (wp_region_list ?_);refine ta (cs:=y.cells.toArray) hs hd zl ?_;intro q u hq hqe hb';clear hs hd zl;intro a hs hd zl;have d0:u.cell? ⟨g,0,none⟩=some (.string x.a):=(hg.after hb').cell 0;have d1:u.cell? ⟨g,1,none⟩=some (.string x.k):=(hg.after hb').cell 1;replace hB:=bz_then hB hb';clear hb';have hup:=bup hB;have c0:u.cell? ⟨q,0,none⟩=some (.string y.a):=hq.cell 0;have c1:u.cell? ⟨q,1,none⟩=some (.string y.k):=hq.cell 1
 cases b with
 |false=>
  refine wW ?_;clear hs hd zl;intro a hs hd zl;refine wp_ret ?_;(repeat first|refine then_ret ?_|refine inBlock_ret ?_);exact end_tmp rfl hd (sl zl 3) ⟨rfl,hB⟩
 |true=>
  refine wW ?_;clear hs hd zl;intro a hs hd zl;refine wp_ret ?_;(repeat first|refine then_ret ?_|refine inBlock_ret ?_);exact end_tmp rfl hd (sl zl 3) ⟨by simp,hB⟩
theorem c_cla1(x:Seat)(Y:List Seat)(Ay:Option Addr)(cy g:Nat)(w:World)(hg:Blk w g 26 #[.slice Ay Y.length cy])(hY:SeatsAt w Ay Y)(hn:Y.length≤1000):Calls Tryz.prog 33 #[.agg x.cells.toArray,.pointer (some ⟨g,0,none⟩)] w fun e w'=>e=.returned (.bool (Y.any (claB2 x)))∧Below w.heap.size w w':=by
 refine en (sz:=7) rfl rfl rfl fun a hs hd zl=>?_;have hB:=bz_refl w
 refine wp_seq (wp_region_list ?_);refine ta (cs:=x.cells.toArray) hs hd zl ?_;intro q u hq hqe hb;clear hs hd zl;intro a hs hd zl;have hco:=c_conG 34 ⟨q,0,none⟩ (claB2 x) Y Ay cy u (hY.after hb) hn (ent Tryz.func34 (by kernel_rfl) rfl) fun y _ v hv=>c_cla2 y x q v (hq.after hv)
 obtain⟨n,hN⟩:∃n,Is Y.length n:=is_self _;rw[hN.out]at hco hg;have d0:u.cell? ⟨g,0,none⟩=some (.slice Ay n cy):=(hg.after hb).cell 0;replace hB:=bz_then hB hb;(try clear hup);have hup:=bup hB;clear hb;refine wW ?_;clear hs hd zl;intro a hs hd zl;refine tc hco hs hd zl ?_;rintro _ u ⟨rfl,hb⟩;refine⟨_,rfl,?_⟩;clear hs hd zl;intro a hs hd zl;replace hB:=bz_then hB hb;(try clear hup);have hup:=bup hB;clear hb;refine wW ?_;clear hs hd zl;intro a hs hd zl;refine wp_ret ?_;(repeat first|refine then_ret ?_|refine inBlock_ret ?_);exact end_tmp rfl hd (sl zl 3) ⟨rfl,hB⟩
def claB(X Y:List Seat):Bool:=X.any fun x=>Y.any (claB2 x)
theorem claB_no{X Y:List Seat}(h:claB X Y=false):NoClash X Y:=fun x hx y hy ha=>by
 unfold claB at h;have h1:=List.any_eq_false.1 h x hx;have h2:=List.any_eq_false.1 (by simpa using h1) y hy;unfold claB2 at h2;rw[(eqB_iff _ _).2 ha]at h2;exact(eqB_iff _ _).1 (by simpa using h2)
theorem c_cla(X Y:List Seat)(Ax Ay:Option Addr)(cx cy:Nat)(w:World)(hX:SeatsAt w Ax X)(hY:SeatsAt w Ay Y)(hn:X.length≤1000)(hm:Y.length≤1000):Calls Tryz.prog 13 #[.slice Ax X.length cx,.slice Ay Y.length cy] w fun e w'=>e=.returned (.bool (claB X Y))∧Below w.heap.size w w':=by
 obtain⟨n,hN⟩:∃n,Is X.length n:=is_self _;obtain⟨m,hM⟩:∃n,Is Y.length n:=is_self _;have hk:∀q u,Below w.heap.size w u→Blk u q 26 #[.slice Ay m cy]→Calls Tryz.prog 14 #[.slice Ax n cx,.func (.func 33) #[] #[.pointer (some ⟨q,0,none⟩)]] u fun e w'=>e=.returned (.bool (claB X Y))∧Below u.heap.size u w':=fun q u hu hq=>by
  have:=c_conG 33 ⟨q,0,none⟩ (fun x=>Y.any (claB2 x)) X Ax cx u (hX.after hu) hn (ent Tryz.func33 (by kernel_rfl) rfl) fun x _ v hv=>c_cla1 x Y Ay cy q v (by rw[hM.out];exact hq.after hv) (hY.after (bz_then hu hv)) hm
  rw[hN.out]at this;exact this
 rw[hN.out,hM.out];generalize claB X Y=z at hk⊢;refine en (sz:=8) rfl rfl rfl fun a hs hd zl=>?_;have hB:=bz_refl w
 refine wp_seq (wp_region_list ?_);refine ta (cs:=#[.slice Ay m cy]) hs hd zl ?_;intro q u hq hqe hb;clear hs hd zl;intro a hs hd zl;have hc:=hk q u hb hq;replace hB:=bz_then hB hb;(try clear hup);have hup:=bup hB;clear hb;refine wW ?_;clear hs hd zl;intro a hs hd zl;refine tc hc hs hd zl ?_;rintro _ u ⟨rfl,hb⟩;refine⟨_,rfl,?_⟩;clear hs hd zl;intro a hs hd zl;replace hB:=bz_then hB hb;(try clear hup);have hup:=bup hB;clear hb;refine wW ?_;clear hs hd zl;intro a hs hd zl;refine wp_ret ?_;(repeat first|refine then_ret ?_|refine inBlock_ret ?_);exact end_tmp rfl hd (sl zl 4) ⟨rfl,hB⟩
theorem header_info:(Tryz.prog.info? 37).map (fun i=>(i.zero,i.size,i.bytes))=some (some (.agg #[.int .i64 0,.int .i64 0,.string ⟨#[]⟩,.int .i64 0,.int .i64 0,.int .i64 0,.slice none 0 0,.int .i64 0,.slice none 0 0,.slice none 0 0,.slice none 0 0,.slice none 0 0,.slice none 0 0,.slice none 0 0,.slice none 0 0,.slice none 0 0,.slice none 0 0,.string ⟨#[]⟩]),18,320):=by kernel_rfl
theorem commit_info:(Tryz.prog.info? 41).map (fun i=>(i.zero,i.size,i.bytes))=some (some (.agg #[.int .i64 0,.int .i64 0,.slice none 0 0,.int .i64 0,.slice none 0 0,.slice none 0 0]),6,96):=by kernel_rfl
theorem sets_info:(Tryz.prog.info? 26).map (fun i=>(i.zero,i.size,i.bytes))=some (some (.slice none 0 0),1,24):=by kernel_rfl
theorem NuV.i64(x:Int):NuV (.int .i64 x):=fun y e=>by cases e
theorem NuV.sl(s:HSl):NuV s.v:=fun y e=>by cases e
theorem NuV.slice(A:Option Addr)(n c:Nat):NuV (.slice A n c):=fun y e=>by cases e
theorem NuV.str(s:ByteArray):NuV (.string s):=fun y e=>by cases e
theorem Hd.nu(H:Hd):∀u∈H.cells.toList,NuV u:=by
 intro u hu;simp only[Hd.cells,List.mem_cons,List.not_mem_nil,or_false]at hu;rcases hu with rfl|rfl|rfl|rfl|rfl|rfl|rfl|rfl|rfl|rfl|rfl|rfl|rfl|rfl|rfl|rfl|rfl|rfl <;> first|exact NuV.i64 _|exact NuV.str _|exact NuV.sl _
theorem Ic.nu(D:Ic):∀u∈D.cells.toList,NuV u:=by
 intro u hu;simp only[Ic.cells,List.mem_cons,List.not_mem_nil,or_false]at hu;rcases hu with rfl|rfl|rfl|rfl|rfl|rfl <;> first|exact NuV.i64 _|exact NuV.sl _|exact NuV.slice _ _ _
theorem slice_noU8(A:Option Addr)(n c:Nat):NoU8 #[.slice A n c]:=noU8_mem fun v hv=>by
 obtain rfl:v=.slice A n c:=by simpa using hv
 exact NuV.slice _ _ _
theorem zeros_nu{l:List Value}(h:∀u∈l,(match u with| .int .u8 _=>false|_=>true)=true):∀u∈l,NuV u:=fun u hu x e=>by
 subst e;exact absurd (h _ hu) (by simp)
theorem GB.blk{w w':World}{g:Nat}(h:GB w w' g){q:Nat}{T:TypeId}{cs:Array Value}(hq:Blk w q T cs)(hn:q≠g):Blk w' q T cs:=hq.gbfar h (fun e=>hn e.symm)
theorem OwnR.gbT{e T:TypeId}{k base c g:Nat}{w w':World}{A:Option Addr}{R:List (List Value)}{cs:Array Value}(h:OwnR e k base w A c R)(hg:Blk w g T cs)(hT:T≠e)(hb:GB w w' g):OwnR e k base w' A c R:=by
 refine⟨h.1,h.2.1,?_⟩;rcases h.2.2 with h1|⟨q,cap,cur,h1,h2,h3,h4⟩
 ·exact .inl h1
 ·have hq:Blk w q e cur:=h3;have hn:q≠g:=by
   rintro rfl;exact hT (hg.uniq hq).2
  exact .inr ⟨q,cap,cur,h1,h2,hq.gbfar hb (fun e=>hn e.symm),h4⟩
theorem OwnR.blkE{e:TypeId}{k base c:Nat}{w:World}{A:Option Addr}{R:List (List Value)}(h:OwnR e k base w A c R){g:Nat}(hA:blkOf A=some g):∃cur,Blk w g e cur∧base≤g:=by
 rcases h.form with⟨rfl,_,_⟩|⟨q,cur,rfl,hge,_,hb,_⟩
 ·cases hA
 ·have hA:q=g:=by simpa [blkOf]using hA
  subst hA;exact⟨cur,hb,hge⟩
theorem NbA.gbT{p:Value→Prop}{e T:TypeId}{k base c g:Nat}{w w':World}{A:Option Addr}{R:List (List Value)}{cs:Array Value}(h:NbA p w A)(ho:OwnR e k base w A c R)(hg:Blk w g T cs)(hT:T≠e)(hb:GB w w' g):NbA p w' A:=fun q T' cs' hA hq=>by
 obtain⟨cur,hc,_⟩:=ho.blkE hA;have hn:q≠g:=by
  rintro rfl;exact hT (hg.uniq hc).2
 obtain⟨rfl,-⟩:=(hc.gbfar hb (fun e=>hn e.symm)).uniq hq;exact h q e cur hA hc
theorem NbA.aft{p:Value→Prop}{e:TypeId}{k base c:Nat}{w w':World}{A:Option Addr}{R:List (List Value)}(h:NbA p w A)(ho:OwnR e k base w A c R)(hb:Below w.heap.size w w'):NbA p w' A:=h.after (fun g hA=>by
 obtain⟨cur,hc,_⟩:=ho.blkE hA;exact hc.lt) hb
structure Stab(p:Value→Prop)(T:TypeId)(P:World→Prop):Prop where
 after:∀{w w':World},P w→Below w.heap.size w w'→P w'
 gb:∀{w w':World} {g:Nat} {cs:Array Value},P w→Blk w g T cs→(∀v∈cs.toList,p v)→GB w w' g→P w'
theorem Stab.app{p:Value→Prop}{T:TypeId}{P:World→Prop}(h:Stab p T P){k base c:Nat}{w w':World}{A:Option Addr}{R:List (List Value)}(ho:OwnR T k base w A c R)(hn:NbA p w A)(hg:w.grownBy w' (blkOf A))(hp:P w):P w':=by
 cases hA:blkOf A with
 |none=>
  rw[hA]at hg;exact h.after hp ⟨hg.os,hg.tape,hg.output,hg.size,fun k hk=>hg.block k hk (by simp)⟩
 |some g=>
  rw[hA]at hg;obtain⟨cur,hc,_⟩:=ho.blkE hA;exact h.gb hp hc (hn g _ _ hA hc) hg
theorem Stab.and{p:Value→Prop}{T:TypeId}{P Q:World→Prop}(h:Stab p T P)(h':Stab p T Q):Stab p T fun w=>P w∧Q w:=⟨fun hp hb=>⟨h.after hp.1 hb,h'.after hp.2 hb⟩,fun hp hB hn hg=>⟨h.gb hp.1 hB hn hg,h'.gb hp.2 hB hn hg⟩⟩
theorem Stab.blk(p:Value→Prop)(T:TypeId){T':TypeId}(q:Nat)(cs:Array Value)(hT:T≠T'):Stab p T fun w=>Blk w q T' cs:=⟨fun hp hb=>hp.after hb,fun hp hB _ hg=>hp.gbfar hg (by
 rintro rfl;exact hT (hB.uniq hp).2)⟩
theorem Stab.hsl(T:TypeId)(s:HSl):Stab NuV T fun w=>s.ok w:=⟨fun hp hb=>hp.after hb,fun hp hB hn hg=>hp.gbT hB (noU8_mem hn) hg⟩
theorem Stab.all{p:Value→Prop}{T:TypeId}{α:Type}{l:List α}{P:α→World→Prop}(h:∀x∈l,Stab p T (P x)):Stab p T fun w=>∀x∈l,P x w:=⟨fun hp hb x hx=>(h x hx).after (hp x hx) hb,fun hp hB hn hg x hx=>(h x hx).gb (hp x hx) hB hn hg⟩
theorem Stab.hd(T:TypeId)(H:Hd):Stab NuV T fun w=>H.ok w:=⟨fun hp hb=>hp.after hb,fun hp hB hn hg=>⟨hp.bh.gbT hB (noU8_mem hn) hg,hp.bp.gbT hB (noU8_mem hn) hg,fun i hi=>(hp.hh i hi).gbT hB (noU8_mem hn) hg⟩⟩
def CmOk(D:Ic)(w:World):Prop:=IcAt D w∧∃g rest,D.A=some ⟨g,0,none⟩∧SgB w g D.S rest
theorem Stab.cm(T:TypeId)(hT:T≠59)(D:Ic):Stab NuV T (CmOk D):=⟨fun⟨h1,g,rest,h2,h3⟩ hb=>⟨h1.after hb,g,rest,h2,Blk.after h3 hb⟩,fun⟨h1,g,rest,h2,h3⟩ hB hn hg=>by
 have h4:SgB _ g D.S rest:=(Stab.blk NuV T g _ hT).gb h3 hB hn hg;exact⟨⟨h1.b.gbT hB (noU8_mem hn) hg,h1.bp.gbT hB (noU8_mem hn) hg,h1.bt,h1.rd,by rw[h2];exact h4.rows,fun s hs=>⟨(h1.sg s hs).fl,(h1.sg s hs).sec,(h1.sg s hs).ns,(h1.sg s hs).ad,(h1.sg s hs).sg.gbT hB (noU8_mem hn) hg⟩,h1.n0,h1.n⟩,g,rest,h2,h4⟩⟩
def hdRows(L:List Hd):List (List Value):=L.map fun H=>H.cells.toList
def icRows(L:List Ic):List (List Value):=L.map fun D=>D.cells.toList
theorem hdRows_length(L:List Hd):(hdRows L).length=L.length:=by simp[hdRows]
theorem icRows_length(L:List Ic):(icRows L).length=L.length:=by simp[icRows]
theorem hdRows_get{L:List Hd}{i:Nat}{H:Hd}(h:L[i]?=some H):(hdRows L)[i]?=some H.cells.toList:=by simp[hdRows,h]
theorem icRows_get{L:List Ic}{i:Nat}{D:Ic}(h:L[i]?=some D):(icRows L)[i]?=some D.cells.toList:=by simp[icRows,h]
structure HdsAt(base:Nat)(w:World)(A:Option Addr)(c:Nat)(L:List Hd):Prop where
 own:OwnR 37 18 base w A c (hdRows L)
 nb:NbA NuV w A
 ok:∀H∈L,H.ok w
structure CmsAt(base:Nat)(w:World)(A:Option Addr)(c:Nat)(L:List Ic):Prop where
 own:OwnR 41 6 base w A c (icRows L)
 nb:NbA NuV w A
 ok:∀D∈L,CmOk D w
theorem HdsAt.nil(base:Nat)(w:World):HdsAt base w none 0 []:=⟨OwnR.nil _ _ _ _,NbA.none _ w,fun H h=>by cases h⟩
theorem CmsAt.nil(base:Nat)(w:World):CmsAt base w none 0 []:=⟨OwnR.nil _ _ _ _,NbA.none _ w,fun H h=>by cases h⟩
theorem Stab.hds(T:TypeId)(hT:T≠37)(base:Nat)(A:Option Addr)(c:Nat)(L:List Hd):Stab NuV T fun w=>HdsAt base w A c L:=⟨fun hp hb=>⟨hp.own.after hb,hp.nb.aft hp.own hb,fun H hH=>(hp.ok H hH).after hb⟩,fun hp hB hn hg=>⟨hp.own.gbT hB hT hg,hp.nb.gbT hp.own hB hT hg,fun H hH=>(Stab.hd T H).gb (hp.ok H hH) hB hn hg⟩⟩
theorem Stab.cms(T:TypeId)(hT:T≠41)(hT':T≠59)(base:Nat)(A:Option Addr)(c:Nat)(L:List Ic):Stab NuV T fun w=>CmsAt base w A c L:=⟨fun hp hb=>⟨hp.own.after hb,hp.nb.aft hp.own hb,fun D hD=>(Stab.cm T hT' D).after (hp.ok D hD) hb⟩,fun hp hB hn hg=>⟨hp.own.gbT hB hT hg,hp.nb.gbT hp.own hB hT hg,fun D hD=>(Stab.cm T hT' D).gb (hp.ok D hD) hB hn hg⟩⟩
theorem op_app_hd{o:Oper}{a:Act}{w:World}{Q:Exit→Act→World→Prop}{K:Act→World→Prop}(s x:Operand)(ho:o.op=.call {callee:=.builtin .append,args:=#[s,x],argTypes:=#[28,28]})
  {base g c c2 n:Nat}{A:Option Addr}{L:List Hd}{H:Hd}{t2:TypeId}(hn:L.length=n)(hs:a.eval s=.slice A n c)(hx:a.eval x=.slice (some ⟨g,0,none⟩) 1 c2)(hp:HdsAt base w A c L)(hg:Blk w g t2 H.cells)(hH:H.ok w)(hlen:L.length≤1000)(hbase:base≤w.heap.size)
  (h:∀(A':Option Addr) (c':Nat) (w':World),HdsAt base w' A' c' (L++[H])→Below base w w'→(∀P:World→Prop,Stab NuV 37 P→P w→P w')→w.grownBy w' (blkOf A)→K (a.put o.dst (.slice A' (n+1) c')) w'):o.wp Tryz.prog a w K Q:=by
 refine op_app_rowN s x ho Tryz.underlying28 header_info rfl (by decide) (R:=hdRows L) (r:=H.cells.toList) (by rw[hdRows_length,hn];exact hs) hx hp.own hg rfl (Hd.one H) (by rw[hdRows_length];exact hlen) (by decide) hbase hp.nb H.nu (zeros_nu (by decide)) ?_;intro A' c' w' ho' hb hgr _ hnb;have hl:(hdRows L++[H.cells.toList]).length=n+1:=by rw[List.length_append,hdRows_length,hn];rfl
 rw[hl];have he:hdRows (L++[H])=hdRows L++[H.cells.toList]:=by simp[hdRows]
 refine h A' c' w' ⟨by rw[he];exact ho',hnb,fun G hG=>?_⟩ hb (fun P hP hp'=>hP.app hp.own hp.nb hgr hp') hgr;refine(Stab.hd _ G).app hp.own hp.nb hgr ?_;rcases List.mem_append.1 hG with h1|h1
 ·exact hp.ok G h1
 ·rw[List.mem_singleton.1 h1];exact hH
theorem op_app_cm{o:Oper}{a:Act}{w:World}{Q:Exit→Act→World→Prop}{K:Act→World→Prop}(s x:Operand)(ho:o.op=.call {callee:=.builtin .append,args:=#[s,x],argTypes:=#[29,29]})
  {base g c c2 n:Nat}{A:Option Addr}{L:List Ic}{D:Ic}{t2:TypeId}(hn:L.length=n)(hs:a.eval s=.slice A n c)(hx:a.eval x=.slice (some ⟨g,0,none⟩) 1 c2)(hp:CmsAt base w A c L)(hg:Blk w g t2 D.cells)(hD:CmOk D w)(hlen:L.length≤1000)(hbase:base≤w.heap.size)
  (h:∀(A':Option Addr) (c':Nat) (w':World),CmsAt base w' A' c' (L++[D])→Below base w w'→(∀P:World→Prop,Stab NuV 41 P→P w→P w')→K (a.put o.dst (.slice A' (n+1) c')) w'):o.wp Tryz.prog a w K Q:=by
 refine op_app_rowN s x ho Tryz.underlying29 commit_info rfl (by decide) (R:=icRows L) (r:=D.cells.toList) (by rw[icRows_length,hn];exact hs) hx hp.own hg rfl (Ic.one D) (by rw[icRows_length];exact hlen) (by decide) hbase hp.nb D.nu (zeros_nu (by decide)) ?_;intro A' c' w' ho' hb hgr _ hnb;have hl:(icRows L++[D.cells.toList]).length=n+1:=by rw[List.length_append,icRows_length,hn];rfl
 rw[hl];have he:icRows (L++[D])=icRows L++[D.cells.toList]:=by simp[icRows]
 refine h A' c' w' ⟨by rw[he];exact ho',hnb,fun G hG=>?_⟩ hb fun P hP hp'=>hP.app hp.own hp.nb hgr hp'
 refine(Stab.cm _ (by decide) G).app hp.own hp.nb hgr ?_;rcases List.mem_append.1 hG with h1|h1
 ·exact hp.ok G h1
 ·rw[List.mem_singleton.1 h1];exact hD
def IsSl(v:Value):Prop:=∃A n c,v=.slice A n c
theorem Stab.seats(T:TypeId)(A:Option Addr)(S:List Seat):Stab IsSl T fun w=>SeatsAt w A S:=⟨fun hp hb=>hp.after hb,fun {w w' g cs} hp hB hn hg=>fun i r hr=>by
 obtain⟨hl,b,o,e,hlt,hc⟩:=hp i r hr;refine⟨hl,b,o,e,Nat.lt_of_lt_of_le hlt hg.size,fun j v hj=>?_⟩;have hbg:b≠g:=by
  rintro rfl;obtain⟨s,-,rfl⟩:=List.mem_map.1 (List.mem_of_getElem? hr);have h0:=hc 0 _ rfl;rw[hB.cell,← Array.getElem?_toList]at h0;obtain⟨_,_,_,h1⟩:=hn _ (List.mem_of_getElem? h0)
  cases h1
 exact(gb_cell hg hlt (fun h=>hbg (by injection h))).trans (hc j v hj)⟩
structure SetsAt(base:Nat)(w:World)(A:Option Addr)(c:Nat)(R:List Nl):Prop where
 own:OwnR 26 1 base w A c (slRows R)
 nb:NbA IsSl w A
 at_:∀r∈R,SeatsAt w r.A r.S
theorem SetsAt.nil(base:Nat)(w:World):SetsAt base w none 0 []:=⟨OwnR.nil _ _ _ _,NbA.none _ w,fun H h=>by cases h⟩
theorem SetsAt.sls{base:Nat}{w:World}{A:Option Addr}{c:Nat}{R:List Nl}(h:SetsAt base w A c R):SlsAt w A R:=⟨h.own.rows,h.at_⟩
theorem SetsAt.less{base base':Nat}{w:World}{A:Option Addr}{c:Nat}{R:List Nl}(h:SetsAt base w A c R)(hb:base'≤base):SetsAt base' w A c R:=⟨h.own.less hb,h.nb,h.at_⟩
theorem Stab.sets(T:TypeId)(hT:T≠26)(base:Nat)(A:Option Addr)(c:Nat)(R:List Nl):Stab IsSl T fun w=>SetsAt base w A c R:=⟨fun hp hb=>⟨hp.own.after hb,hp.nb.aft hp.own hb,fun r hr=>(hp.at_ r hr).after hb⟩,fun hp hB hn hg=>⟨hp.own.gbT hB hT hg,hp.nb.gbT hp.own hB hT hg,fun r hr=>(Stab.seats T r.A r.S).gb (hp.at_ r hr) hB hn hg⟩⟩
theorem slRows_length(R:List Nl):(slRows R).length=R.length:=by simp[slRows]
theorem op_app_set{o:Oper}{a:Act}{w:World}{Q:Exit→Act→World→Prop}{K:Act→World→Prop}(s x:Operand)(ho:o.op=.call {callee:=.builtin .append,args:=#[s,x],argTypes:=#[24,24]})
  {base g c c2 n:Nat}{A:Option Addr}{R:List Nl}{r:Nl}{t2:TypeId}(hn:R.length=n)(hs:a.eval s=.slice A n c)(hx:a.eval x=.slice (some ⟨g,0,none⟩) 1 c2)(hp:SetsAt base w A c R)(hg:Blk w g t2 #[r.v])(hr:SeatsAt w r.A r.S)(hlen:R.length≤1000)(hbase:base≤w.heap.size)
  (h:∀(A':Option Addr) (c':Nat) (w':World),SetsAt base w' A' c' (R++[r])→Below base w w'→(∀P:World→Prop,Stab IsSl 26 P→P w→P w')→K (a.put o.dst (.slice A' (n+1) c')) w'):o.wp Tryz.prog a w K Q:=by
 refine op_app_rowN (p:=IsSl) s x ho Tryz.underlying24 sets_info rfl (by decide) (R:=slRows R) (r:=[r.v]) (by rw[slRows_length,hn];exact hs) hx hp.own hg rfl (fun u hu=>by rw[List.mem_singleton.1 hu];rfl) (by rw[slRows_length];exact hlen) (by decide) hbase hp.nb (fun u hu=>by rw[List.mem_singleton.1 hu];exact⟨_,_,_,rfl⟩) (fun u hu=>by
  have:u=.slice none 0 0:=by simpa [Value.cells]using hu
  exact⟨_,_,_,this⟩) ?_
 intro A' c' w' ho' hb hgr _ hnb;have hl:(slRows R++[[r.v]]).length=n+1:=by rw[List.length_append,slRows_length,hn];rfl
 rw[hl];have he:slRows (R++[r])=slRows R++[[r.v]]:=by simp[slRows]
 refine h A' c' w' ⟨by rw[he];exact ho',hnb,fun G hG=>?_⟩ hb fun P hP hp'=>hP.app hp.own hp.nb hgr hp'
 refine(Stab.seats _ G.A G.S).app hp.own hp.nb hgr ?_;rcases List.mem_append.1 hG with h1|h1
 ·exact hp.at_ G h1
 ·rw[List.mem_singleton.1 h1];exact hr
def chN:ByteArray:=⟨#[99,104,97,105,110]⟩
structure Lk(R:List Nl)(i:Nat)(H:Hd)(D:Ic):Prop where
 hd:∃(r nx:Nl) (x0:Seat),R[i]?=some r∧(R[i+1]?=some nx∨nx=r∧R.length=i+1)∧r.S[0]?=some x0∧Headed chN (10+i) (1000+10*i) 0 r.S nx.S x0.a [(i:Int)] H
 fu:∀r,R[i]?=some r→Full H r.S D∧SgsPre (1000+10*i) r.S D.S∧∀s∈D.S,s.fl≠1→s.sg.l.length=32
 ht:D.ht=10+i
 b:D.b.l=rootN 20 H.leaves
 bp:D.bp.l=sha []
theorem Lk.num{R:List Nl}{i:Nat}{H:Hd}{D:Ic}(h:Lk R i H D)(hi:i<8)(hR:∀r∈R,SetOk r.S):H.num∧H.full∧H.ch=chN∧H.ht=10+i∧H.sec=1000+10*i∧H.ns=0:=by
 obtain⟨r,nx,x0,hr,-,hx,hh⟩:=h.hd;have hx20:=((hR r (List.mem_of_getElem? hr)).good.get hx).a;refine⟨hh.num (by omega) (by omega) (by decide) (by decide) (by omega),hh.full,?_⟩;obtain⟨bh,bp,hs,rfl,-⟩:=hh;exact⟨rfl,rfl,rfl,rfl⟩
theorem stp_chain{R:List Nl}{i j:Nat}{H0 H1:Hd}{D0 D1:Ic}{r0 r1:Nl}(hR:∀r∈R,SetOk r.S)(hn:R.length≤8)(h0:Lk R i H0 D0)(h1:Lk R j H1 D1)(hr0:R[i]?=some r0)(hr1:R[j]?=some r1):StpOk H0 H1 D1 r0.S r1.S 1125899906842624 9000 0 0:=by
 have hi:i<8:=by have:=(List.getElem?_eq_some_iff.1 hr0).1;omega
 have hj:j<8:=by have:=(List.getElem?_eq_some_iff.1 hr1).1;omega
 obtain⟨n0,f0,c0,t0,s0,z0⟩:=h0.num hi hR;obtain⟨n1,f1,c1,t1,s1,z1⟩:=h1.num hj hR;have hY:=hR r1 (List.mem_of_getElem? hr1);obtain⟨hfu,hpre,h32⟩:=h1.fu r1 hr1;have hle:=hY.le;have e3:∃nx:Nl,(R[i+1]?=some nx∨nx=r0∧R.length=i+1)∧(H0.hh 3).l=rootN 20 (sLeaves nx.S):=by
  obtain⟨r,nx,x0,hr,hnx,hx,bh,bp,hs,rfl,-,-,-,h3,-⟩:=h0.hd;rw[hr0]at hr;injection hr with hr;subst hr;exact⟨nx,hnx,h3⟩
 have e2:(H1.hh 2).l=rootN 20 (sLeaves r1.S)∧formedB H1=true:=by
  obtain⟨r,nx,x0,hr,hnx,hx,bh,bp,hs,rfl,-,-,h2,-,-⟩:=h1.hd;rw[hr1]at hr;injection hr with hr;subst hr;refine⟨h2,?_⟩;show(((11:Int) == 11) && decide (chN.size≤50) && decide (x0.a.size=20))=true
  rw[(hY.good.get hx).a];rfl
 refine {n0:=n0,n1:=n1,ht:=by rw[t1];omega,lim:=by rw[t0];omega,sized:=f1.sized,formed:=e2.2,vh:=e2.1,cht:=by rw[h1.ht,t1],cb:=h1.b,cbp:=by rw[h1.bp,sha_len],len:=hfu.len,sg:=fun s hs=>?_,dist:=fun a b s s' ha hb hf hf' e=>?_,ch:=c1.trans c0.symm,chs:=by rw[c0];decide,af:=fun hlt=>?_,be:=?_,exp_:=?_,ts:=by decide,tn:=by decide,d:=by decide,per:=by decide,nx:=fun e=>?_}
 ·obtain⟨k,hk⟩:=List.getElem?_of_mem hs;obtain⟨v,hv,hp⟩:=hpre.get hk;have:=(List.getElem?_eq_some_iff.1 hv).1;exact hp.wf (hY.good.get hv) (by omega) (by omega) (h32 s hs)
 ·obtain⟨v,hv,hp⟩:=hpre.get ha;obtain⟨v',hv',hp'⟩:=hpre.get hb;rcases hp with⟨e1,_⟩|⟨_,e1,_⟩
  ·exact absurd e1 hf
  rcases hp' with⟨e1',_⟩|⟨_,e1',_⟩
  ·exact absurd e1' hf'
  have k1:=find_self hY.nodup hv;have k2:=find_self hY.nodup hv';have:adB v=adB v':=by
   funext x
   unfold adB;rw[← e1,← e1',e]
  rw[this,k2]at k1;injection k1 with k1;exact k1.symm
 ·rw[t0,t1]at hlt;rw[s0,s1,z0,z1];unfold laterB;simp;omega
 ·rw[s1,z1];rcases(by omega:j=0∨j=1∨j=2∨j=3∨j=4∨j=5∨j=6∨j=7)with rfl|rfl|rfl|rfl|rfl|rfl|rfl|rfl <;> decide
 ·rw[s0,z0];rcases(by omega:i=0∨i=1∨i=2∨i=3∨i=4∨i=5∨i=6∨i=7)with rfl|rfl|rfl|rfl|rfl|rfl|rfl|rfl <;> decide
 ·rw[t0,t1]at e;obtain rfl:j=i+1:=by omega
  obtain⟨nx,hnx,h3⟩:=e3;rcases hnx with hnx|⟨-,hl⟩
  ·rw[hr1]at hnx;injection hnx with hnx;rw[e2.1,h3,hnx]
  ·have:=(List.getElem?_eq_some_iff.1 hr1).1;omega
structure ChAt(R:List Nl)(Hs:List Hd)(Ds:List Ic)(g11 g12 g7:Nat)(w:World):Prop where
 bh:∃A c,Blk w g11 28 #[.slice A Hs.length c]∧RowsAt w A 18 (hdRows Hs)
 bc:∃A c,Blk w g12 29 #[.slice A Ds.length c]∧RowsAt w A 6 (icRows Ds)
 bs:∃A c,Blk w g7 24 #[.slice A R.length c]∧SlsAt w A R
 ok:∀H∈Hs,H.ok w
 cm:∀D∈Ds,IcAt D w
 kt:KTab w 1
 k0:1<w.heap.size
theorem ChAt.after{R:List Nl}{Hs:List Hd}{Ds:List Ic}{g11 g12 g7:Nat}{w w':World}(h:ChAt R Hs Ds g11 g12 g7 w)(hb:Below w.heap.size w w'):ChAt R Hs Ds g11 g12 g7 w':=by
 obtain⟨⟨A,c,h1,h2⟩,⟨B,d,h3,h4⟩,⟨C,e,h5,h6⟩,h7,h8,h9,h10⟩:=h;exact⟨⟨A,c,h1.after hb,h2.after hb⟩,⟨B,d,h3.after hb,h4.after hb⟩,⟨C,e,h5.after hb,h6.after hb⟩,fun H hH=>(h7 H hH).after hb,fun D hD=>(h8 D hD).after hb,h9.after hb,Nat.lt_of_lt_of_le h10 hb.size⟩
def ChB(S:List Seat)(n:Nat)(v:Value)(w:World):Prop:=∃(A:Option Addr) (c:Nat),v=.slice A n c∧SeatsAt w A S
theorem ChB.keeps(S:List Seat)(n:Nat):∀v (w w':World),Below w.heap.size w w'→ChB S n v w→ChB S n v w':=fun _ _ _ hb ⟨A,c,h1,h2⟩=>⟨A,c,h1,h2.after hb⟩
theorem c_stp1(R:List Nl)(Hs:List Hd)(Ds:List Ic)(g11 g12 g7 i j:Nat)(H0 H1:Hd)(D0 D1:Ic)(r0 r1:Nl)(w:World)(hA:ChAt R Hs Ds g11 g12 g7 w)(hR:∀r∈R,SetOk r.S∧0<r.S.length)(hn:R.length≤8)(hhn:Hs.length=R.length)(hdn:Ds.length=R.length)(hH0:Hs[i]?=some H0)(hH1:Hs[j]?=some H1)(hD0:Ds[i]?=some D0)(hD1:Ds[j]?=some D1)(hr0:R[i]?=some r0)(hr1:R[j]?=some r1)(h0:Lk R i H0 D0)(h1:Lk R j H1 D1):
  Calls Tryz.prog 9 #[.int .i64 i,.int .i64 j,.pointer (some ⟨g11,0,none⟩),.pointer (some ⟨g12,0,none⟩),.pointer (some ⟨g7,0,none⟩)] w fun e w'=>∃(r:Int) (X V:List Vl) (T:List CS) (B:Option Addr) (q:Nat),e=.returned (.int .i64 r)∧VlsOf r0.S X∧VlsOf r1.S V∧CssOf D1.S T∧OutVer X V (icMk D1 B q T) H1.ch (10+j) (10+i) r∧Below w.heap.size w w':=by
 have hstp:=stp_chain (fun r hr=>(hR r hr).1) hn h0 h1 hr0 hr1;have hi:i<R.length:=(List.getElem?_eq_some_iff.1 hr0).1;have hj:j<R.length:=(List.getElem?_eq_some_iff.1 hr1).1;obtain⟨n,hN⟩:∃n,Is R.length n:=is_self _;have hm0:=hR r0 (List.mem_of_getElem? hr0);have hm1:=hR r1 (List.mem_of_getElem? hr1);have t0:=(h0.num (by omega) (fun r hr=>(hR r hr).1)).2.2.2.1;have t1:=(h1.num (by omega) (fun r hr=>(hR r hr).1)).2.2.2.1;have hch:H0.ch=H1.ch:=(h0.num (by omega) (fun r hr=>(hR r hr).1)).2.2.1.trans (h1.num (by omega) (fun r hr=>(hR r hr).1)).2.2.1.symm;obtain⟨Ah,ch,bh,rh⟩:=hA.bh;obtain⟨Ac,cc,bc,rc⟩:=hA.bc;obtain⟨As,cs,bs,rs⟩:=hA.bs;obtain⟨bH,oH,rfl,lH,cH⟩:=rh.at_ (by rw[hdRows_length];omega);obtain⟨bC,oC,rfl,lC,cC⟩:=rc.at_ (by rw[icRows_length];omega);have kH0:=(cH i _ (hdRows_get hH0)).2;have kH1:=(cH j _ (hdRows_get hH1)).2;have kC0:=(cC i _ (icRows_get hD0)).2;have kC1:=(cC j _ (icRows_get hD1)).2;obtain⟨bS,oS,eS,lS,kS0⟩:=rs.cell hr0;obtain⟨bS',oS',eS',-,kS1⟩:=rs.cell hr1;rw[eS]at eS';obtain⟨rfl,rfl⟩:bS=bS'∧oS=oS':=by simpa using eS'
 clear eS';subst eS;rw[hhn,hN.out]at bh;rw[hdn,hN.out]at bc;rw[hN.out]at bs hi hj;have b0:w.cell? ⟨g11,0,none⟩=some (.slice (some ⟨bH,oH,none⟩) n ch):=bh.cell 0;have b1:w.cell? ⟨g12,0,none⟩=some (.slice (some ⟨bC,oC,none⟩) n cc):=bc.cell 0;have b2:w.cell? ⟨g7,0,none⟩=some (.slice (some ⟨bS,oS,none⟩) n cs):=bs.cell 0;have l11:=bh.lt;have l12:=bc.lt;have l7:=bs.lt;unfold Nl.v at kS0 kS1;obtain⟨n0,hn0⟩:∃n,Is r0.S.length n:=is_self _;obtain⟨n1,hn1⟩:∃n,Is r1.S.length n:=is_self _;rw[hn0.out]at kS0;rw[hn1.out]at kS1;have e1:decide (i<n)=true:=decide_eq_true hi;have e2:decide (j<n)=true:=decide_eq_true hj;have i1:∀v,Below w.heap.size w v→Calls Tryz.prog 11 #[.slice r0.A n0 r0.c] v fun e w'=>∃x,e=.returned x∧ChB r0.S n0 x w'∧Below v.heap.size v w':=fun v hv=>by
  have:=c_back r0.S r0.A r0.c v ((rs.at_ r0 (List.mem_of_getElem? hr0)).after hv) (by have:=hm0.1.le;omega);rw[hn0.out]at this;exact this.mono fun e w' ⟨A,c,h1,h2,h3⟩=>⟨_,h1,⟨A,c,rfl,h2⟩,h3⟩
 have i2:∀v,Below w.heap.size w v→Calls Tryz.prog 11 #[.slice r1.A n1 r1.c] v fun e w'=>∃x,e=.returned x∧ChB r1.S n1 x w'∧Below v.heap.size v w':=fun v hv=>by
  have:=c_back r1.S r1.A r1.c v ((rs.at_ r1 (List.mem_of_getElem? hr1)).after hv) (by have:=hm1.1.le;omega);rw[hn1.out]at this;exact this.mono fun e w' ⟨A,c,h1,h2,h3⟩=>⟨_,h1,⟨A,c,rfl,h2⟩,h3⟩
 refine en (sz:=36) rfl rfl rfl fun a hs hd zl=>?_;have hB:=bz_refl w
 have hup:=bup hB;refine wp_seq (wp_region_list ?_);refine tx hs hd zl ?_;clear hs hd zl;intro a hs hd zl;change Code.wp _ _ _ _ _;refine wp_seq ?_;refine fxs [.inl (8,_),.inl (9,_),.inl (10,_),.inl (11,.agg H0.cells),.inl (12,_),.inl (13,_),.inl (14,_),.inl (15,.agg D0.cells),.inl (16,_),.inl (17,_),.inl (18,_),.inl (19,_),.inr (.px 20 (ChB r0.S n0) (ChB.keeps _ _)),.inl (21,_),.inl (22,_),.inl (23,_),.inl (24,.agg H1.cells),.inl (25,_),.inl (26,_),.inl (27,_),.inl (28,.agg D1.cells),.inl (29,_),.inl (30,_),.inl (31,_),.inl (32,_),.inr (.px 33 (ChB r1.S n1) (ChB.keeps _ _)),.inl (34,_)] 27 hs hd zl
  (by
   simp only[List.map_cons,List.map_nil,itS]
   (repeat' first|exact trivial|refine And.intro (sP bo) ?_|refine And.intro (sP (bk (v:=.agg H0.cells) (fun a u hb zl hd K Q hK=>op_load_cells 37 (.tmp 10) rfl bH _ (vD hd 2) H0.cells.toList _ (fun j v hj=>(hb.cell (World.block_lt_of_cell? w _ (kH0 j v hj))).trans (kH0 j v hj)) rfl rfl (by kernel_rfl) hK))) ?_|refine And.intro (sP (bk (v:=.agg D0.cells) (fun a u hb zl hd K Q hK=>op_load_cells 41 (.tmp 14) rfl bC _ (vD hd 6) D0.cells.toList _ (fun j v hj=>(hb.cell (World.block_lt_of_cell? w _ (kC0 j v hj))).trans (kC0 j v hj)) rfl rfl (by kernel_rfl) hK))) ?_|refine And.intro (sP (bk (v:=.agg H1.cells) (fun a u hb zl hd K Q hK=>op_load_cells 37 (.tmp 23) rfl bH _ (vD hd 15) H1.cells.toList _ (fun j v hj=>(hb.cell (World.block_lt_of_cell? w _ (kH1 j v hj))).trans (kH1 j v hj)) rfl rfl (by kernel_rfl) hK))) ?_|refine And.intro (sP (bk (v:=.agg D1.cells) (fun a u hb zl hd K Q hK=>op_load_cells 41 (.tmp 27) rfl bC _ (vD hd 19) D1.cells.toList _ (fun j v hj=>(hb.cell (World.block_lt_of_cell? w _ (kC1 j v hj))).trans (kC1 j v hj)) rfl rfl (by kernel_rfl) hK))) ?_|refine And.intro (sP (bcx (fun a w v hs=>px_put hs (by decide)) i1)) ?_|refine And.intro (sP (bcx (fun a w v hs=>px_put hs (by decide)) i2)) ?_)) ?_
 clear i1 i2;intro a u hb hs hd zl hh;obtain⟨h20,h33,-⟩:=hh;obtain⟨B0,k0,e20,hS0⟩:=FItem.px_holds.1 h20;obtain⟨B1,k1,e33,hS1⟩:=FItem.px_holds.1 h33;replace zl:=kp [11,15,24,28,34] zl;replace zl:LiveAll ((20,_)::(33,_)::_) a:=⟨e20,e33,zl⟩;clear h20 h33 e20 e33;replace hB:=bz_then hB hb;(try clear hup);have hup:=bup hB;clear hb;have hst:=c_step H0 H1 D0 D1 r0.S r1.S B0 B1 k0 k1 1125899906842624 9000 0 0 u hstp hm0.1 hm1.1 hm0.2 hm1.2 ((hA.ok H0 (List.mem_of_getElem? hH0)).after hB) ((hA.ok H1 (List.mem_of_getElem? hH1)).after hB) ((hA.cm D0 (List.mem_of_getElem? hD0)).after hB) ((hA.cm D1 (List.mem_of_getElem? hD1)).after hB) hS0 hS1 (hA.kt.after hB) (Nat.lt_of_lt_of_le hA.k0 hB.size);rw[hn0.out,hn1.out]at hst;refine tc hst hs hd zl ?_;rintro _ u2 ⟨r,VX,VY,CT,B,q,rfl,hVX,hVY,hCT,hout,hb⟩;refine⟨_,rfl,?_⟩;clear hs hd zl;intro a hs hd zl;clear hst;rw[t0,t1,hch]at hout;have HO:=Is.hid hout;clear hout;replace hB:=bz_then hB hb;(try clear hup);have hup:=bup hB;clear hb;refine wW ?_;clear hs hd zl;intro a hs hd zl;refine wp_ret ?_;(repeat first|refine then_ret ?_|refine inBlock_ret ?_);exact end_tmp rfl hd (sl zl 7) ⟨r,VX,VY,CT,B,q,rfl,hVX,hVY,hCT,HO.out,hB⟩
structure Cm22(u0:World)(g16:Nat)(H:Hd)(w:World):Prop where
 bel:Below u0.heap.size u0 w
 b16:Blk w g16 37 H.cells
 ok:H.ok w
structure Th22(u0:World)(g11 g12 g16 k:Nat)(A:Option Addr)(c:Nat)(B:Option Addr)(d:Nat)(Hs:List Hd)(Ds:List Ic)(H:Hd)(PD:Ic→Prop)(st:Nat)(x81 x82 x86 x87 x88:Value)(w:World):Prop where
 cm:Cm22 u0 g16 H w
 b11:st≤5→Blk w g11 28 #[.slice A k c]
 b12:st≤6→Blk w g12 29 #[.slice B k d]
 hds:st≤1→HdsAt u0.heap.size w A c Hs
 cms:st≤4→CmsAt u0.heap.size w B d Ds
 s1:st=1→∃g,x81=.slice (some ⟨g,0,none⟩) 1 1∧Blk w g 37 H.cells
 s2:2≤st→∃A' c',HdsAt u0.heap.size w A' c' (Hs++[H])∧(st≤5→x82=.slice A' (k+1) c')∧(6≤st→Blk w g11 28 #[.slice A' (k+1) c'])
 s3:3≤st→∃D,PD D∧(st≤4→CmOk D w)∧(st=3→x86=.agg D.cells)∧(st=4→∃g,x87=.slice (some ⟨g,0,none⟩) 1 1∧Blk w g 41 D.cells)∧(5≤st→∃B' d',CmsAt u0.heap.size w B' d' (Ds++[D])∧(st≤6→x88=.slice B' (k+1) d')∧(7≤st→Blk w g12 29 #[.slice B' (k+1) d']))
section
variable{u0:World}{g11 g12 g16 k:Nat}{A:Option Addr}{c:Nat}{B:Option Addr}{d:Nat}{Hs:List Hd}{Ds:List Ic}{H:Hd}{PD:Ic→Prop}{st:Nat}{x81 x82 x86 x87 x88:Value}{w w':World}
theorem Cm22.after(h:Cm22 u0 g16 H w)(hb:Below w.heap.size w w'):Cm22 u0 g16 H w':=⟨bz_then h.bel hb,h.b16.after hb,h.ok.after hb⟩
theorem Th22.k1(h:Th22 u0 g11 g12 g16 k A c B d Hs Ds H PD 0 x81 x82 x86 x87 x88 w)(hb:Below w.heap.size w w'){g:Nat}(hg:Blk w' g 37 H.cells):Th22 u0 g11 g12 g16 k A c B d Hs Ds H PD 1 (.slice (some ⟨g,0,none⟩) 1 1) x82 x86 x87 x88 w':=
 ⟨h.cm.after hb,fun _=>(h.b11 (by omega)).after hb,fun _=>(h.b12 (by omega)).after hb,fun _=>(Stab.hds 41 (by decide) _ _ _ _).after (h.hds (by omega)) hb,fun _=>(Stab.cms 37 (by decide) (by decide) _ _ _ _).after (h.cms (by omega)) hb,fun _=>⟨g,rfl,hg⟩,fun e=>by omega,fun e=>by omega⟩
theorem Th22.k2(h:Th22 u0 g11 g12 g16 k A c B d Hs Ds H PD 1 x81 x82 x86 x87 x88 w){A':Option Addr}{c':Nat}(h1:HdsAt u0.heap.size w' A' c' (Hs++[H]))(h2:Below u0.heap.size w w')(h3:∀P:World→Prop,Stab NuV 37 P→P w→P w')(h16:Blk w' g16 37 H.cells):Th22 u0 g11 g12 g16 k A c B d Hs Ds H PD 2 x81 (.slice A' (k+1) c') x86 x87 x88 w':=
 ⟨⟨h.cm.bel.trans h2,h16,h3 _ (Stab.hd _ H) h.cm.ok⟩,fun _=>h3 _ (Stab.blk NuV _ g11 _ (by decide)) (h.b11 (by omega)),fun _=>h3 _ (Stab.blk NuV _ g12 _ (by decide)) (h.b12 (by omega)),fun e=>by omega,fun _=>h3 _ (Stab.cms _ (by decide) (by decide) _ _ _ _) (h.cms (by omega)),fun e=>by omega,fun _=>⟨A',c',h1,fun _=>rfl,fun e=>by omega⟩,fun e=>by omega⟩
theorem Th22.k3(h:Th22 u0 g11 g12 g16 k A c B d Hs Ds H PD 2 x81 x82 x86 x87 x88 w)(hb:Below w.heap.size w w'){D:Ic}(hD:PD D)(hc:CmOk D w'):Th22 u0 g11 g12 g16 k A c B d Hs Ds H PD 3 x81 x82 (.agg D.cells) x87 x88 w':=by
 obtain⟨A',c',h1,h2,h3⟩:=h.s2 (by omega);exact⟨h.cm.after hb,fun _=>(h.b11 (by omega)).after hb,fun _=>(h.b12 (by omega)).after hb,fun e=>by omega,fun _=>(Stab.cms 37 (by decide) (by decide) _ _ _ _).after (h.cms (by omega)) hb,fun e=>by omega,fun _=>⟨A',c',(Stab.hds 41 (by decide) _ _ _ _).after h1 hb,fun _=>h2 (by omega),fun e=>by omega⟩,fun _=>⟨D,hD,fun _=>hc,fun _=>rfl,fun e=>by omega,fun e=>by omega⟩⟩
theorem Th22.k4(h:Th22 u0 g11 g12 g16 k A c B d Hs Ds H PD 3 x81 x82 x86 x87 x88 w)(hb:Below w.heap.size w w'){D:Ic}(hD:PD D)(hc:CmOk D w'){g:Nat}(hg:Blk w' g 41 D.cells):Th22 u0 g11 g12 g16 k A c B d Hs Ds H PD 4 x81 x82 x86 (.slice (some ⟨g,0,none⟩) 1 1) x88 w':=by
 obtain⟨A',c',h1,h2,h3⟩:=h.s2 (by omega);exact⟨h.cm.after hb,fun _=>(h.b11 (by omega)).after hb,fun _=>(h.b12 (by omega)).after hb,fun e=>by omega,fun _=>(Stab.cms 37 (by decide) (by decide) _ _ _ _).after (h.cms (by omega)) hb,fun e=>by omega,fun _=>⟨A',c',(Stab.hds 41 (by decide) _ _ _ _).after h1 hb,fun _=>h2 (by omega),fun e=>by omega⟩,fun _=>⟨D,hD,fun _=>hc,fun e=>by omega,fun _=>⟨g,rfl,hg⟩,fun e=>by omega⟩⟩
theorem Th22.k5(h:Th22 u0 g11 g12 g16 k A c B d Hs Ds H PD 4 x81 x82 x86 x87 x88 w){D:Ic}(hD:PD D){B':Option Addr}{d':Nat}(h1:CmsAt u0.heap.size w' B' d' (Ds++[D]))(h2:Below u0.heap.size w w')(h3:∀P:World→Prop,Stab NuV 41 P→P w→P w'):Th22 u0 g11 g12 g16 k A c B d Hs Ds H PD 5 x81 x82 x86 x87 (.slice B' (k+1) d') w':=by
 obtain⟨A',c',k1,k2,k3⟩:=h.s2 (by omega);exact⟨⟨h.cm.bel.trans h2,h3 _ (Stab.blk NuV _ g16 _ (by decide)) h.cm.b16,h3 _ (Stab.hd _ H) h.cm.ok⟩,fun _=>h3 _ (Stab.blk NuV _ g11 _ (by decide)) (h.b11 (by omega)),fun _=>h3 _ (Stab.blk NuV _ g12 _ (by decide)) (h.b12 (by omega)),fun e=>by omega,fun e=>by omega,fun e=>by omega,fun _=>⟨A',c',h3 _ (Stab.hds _ (by decide) _ _ _ _) k1,fun _=>k2 (by omega),fun e=>by omega⟩,fun _=>⟨D,hD,fun e=>by omega,fun e=>by omega,fun e=>by omega,fun _=>⟨B',d',h1,fun _=>rfl,fun e=>by omega⟩⟩⟩
theorem box_gb(w:World)(g:Nat)(v:Value){T:TypeId}{cs:Array Value}(hg:Blk w g T cs):GB w (w.setCell ⟨g,0,none⟩ v) g:=gb_set (gb_refl w (some g)) 0 v
theorem Th22.k6(h:Th22 u0 g11 g12 g16 k A c B d Hs Ds H PD 5 x81 x82 x86 x87 x88 w)(hg:u0.heap.size≤g11):Th22 u0 g11 g12 g16 k A c B d Hs Ds H PD 6 x81 x82 x86 x87 x88 (w.setCell ⟨g11,0,none⟩ x82):=by
 obtain⟨A',c',k1,k2,k3⟩:=h.s2 (by omega);obtain⟨D,hD,-,-,-,q5⟩:=h.s3 (by omega);obtain⟨B',d',q6,q7,q8⟩:=q5 (by omega);have hx:=k2 (by omega);subst hx;have h0:=h.b11 (by omega);have hgb:=box_gb w g11 (.slice A' (k+1) c') h0;have hn:∀v∈(#[Value.slice A k c]:Array Value).toList,NuV v:=noU8_get (slice_noU8 _ _ _);have hn2:Blk (w.setCell ⟨g11,0,none⟩ (.slice A' (k+1) c')) g11 28 #[.slice A' (k+1) c']:=h0.set_ 0 _;exact⟨⟨GB.below2 h.cm.bel hgb hg,(Stab.blk NuV 28 g16 _ (by decide)).gb h.cm.b16 h0 hn hgb,(Stab.hd _ H).gb h.cm.ok h0 hn hgb⟩,fun e=>by omega,fun _=>(Stab.blk NuV 28 g12 _ (by decide)).gb (h.b12 (by omega)) h0 hn hgb,fun e=>by omega,fun e=>by omega,fun e=>by omega,fun _=>⟨A',c',(Stab.hds 28 (by decide) _ _ _ _).gb k1 h0 hn hgb,fun e=>by omega,fun _=>hn2⟩,fun _=>⟨D,hD,fun e=>by omega,fun e=>by omega,fun e=>by omega,fun _=>⟨B',d',(Stab.cms 28 (by decide) (by decide) _ _ _ _).gb q6 h0 hn hgb,fun _=>q7 (by omega),fun e=>by omega⟩⟩⟩
theorem Th22.k7(h:Th22 u0 g11 g12 g16 k A c B d Hs Ds H PD 6 x81 x82 x86 x87 x88 w)(hg:u0.heap.size≤g12):Th22 u0 g11 g12 g16 k A c B d Hs Ds H PD 7 x81 x82 x86 x87 x88 (w.setCell ⟨g12,0,none⟩ x88):=by
 obtain⟨A',c',k1,k2,k3⟩:=h.s2 (by omega);obtain⟨D,hD,-,-,-,q5⟩:=h.s3 (by omega);obtain⟨B',d',q6,q7,q8⟩:=q5 (by omega);have hx:=q7 (by omega);subst hx;have h0:=h.b12 (by omega);have hgb:=box_gb w g12 (.slice B' (k+1) d') h0;have hn:∀v∈(#[Value.slice B k d]:Array Value).toList,NuV v:=noU8_get (slice_noU8 _ _ _);have hn2:Blk (w.setCell ⟨g12,0,none⟩ (.slice B' (k+1) d')) g12 29 #[.slice B' (k+1) d']:=h0.set_ 0 _;exact⟨⟨GB.below2 h.cm.bel hgb hg,(Stab.blk NuV 29 g16 _ (by decide)).gb h.cm.b16 h0 hn hgb,(Stab.hd _ H).gb h.cm.ok h0 hn hgb⟩,fun e=>by omega,fun e=>by omega,fun e=>by omega,fun e=>by omega,fun e=>by omega,fun _=>⟨A',c',(Stab.hds 29 (by decide) _ _ _ _).gb k1 h0 hn hgb,fun e=>by omega,fun _=>(Stab.blk NuV 29 g11 _ (by decide)).gb (k3 (by omega)) h0 hn hgb⟩,fun _=>⟨D,hD,fun e=>by omega,fun e=>by omega,fun e=>by omega,fun _=>⟨B',d',(Stab.cms 29 (by decide) (by decide) _ _ _ _).gb q6 h0 hn hgb,fun e=>by omega,fun _=>hn2⟩⟩⟩
theorem Th22.fin(h:Th22 u0 g11 g12 g16 k A c B d Hs Ds H PD 7 x81 x82 x86 x87 x88 w):Below u0.heap.size u0 w∧∃A' c' B' d' D,PD D∧Blk w g11 28 #[.slice A' (k+1) c']∧Blk w g12 29 #[.slice B' (k+1) d']∧HdsAt u0.heap.size w A' c' (Hs++[H])∧CmsAt u0.heap.size w B' d' (Ds++[D]):=by
 obtain⟨A',c',k1,k2,k3⟩:=h.s2 (by omega);obtain⟨D,hD,-,-,-,q5⟩:=h.s3 (by omega);obtain⟨B',d',q6,q7,q8⟩:=q5 (by omega);exact⟨h.cm.bel,A',c',B',d',D,hD,k3 (by omega),q8 (by omega),k1,q6⟩
end
def T22(T:Nat→Value→Value→Value→Value→Value→World→Prop)(st:Nat)(a:Act)(w:World):Prop:=T st (a.tmps.getD 81 undef) (a.tmps.getD 82 undef) (a.tmps.getD 86 undef) (a.tmps.getD 87 undef) (a.tmps.getD 88 undef) w
theorem T22.put{T:Nat→Value→Value→Value→Value→Value→World→Prop}{d:Nat}{v:Value}(h1:d≠81)(h2:d≠82)(h3:d≠86)(h4:d≠87)(h5:d≠88):∀a w c,T22 T c a w→T22 T c (a.put (some d) v) w:=fun a w c h=>by
 unfold T22 at h⊢;rw[put_getD _ _ _ _ (fun e=>h1 (Option.some.inj e)),put_getD _ _ _ _ (fun e=>h2 (Option.some.inj e)),put_getD _ _ _ _ (fun e=>h3 (Option.some.inj e)),put_getD _ _ _ _ (fun e=>h4 (Option.some.inj e)),put_getD _ _ _ _ (fun e=>h5 (Option.some.inj e))];exact h
section
variable{T:Nat→Value→Value→Value→Value→Value→World→Prop}{st sz:Nat}{a:Act}{v:Value}{w:World}
theorem T22.p81(hs:SzIs a sz)(h:T st v (a.tmps.getD 82 undef) (a.tmps.getD 86 undef) (a.tmps.getD 87 undef) (a.tmps.getD 88 undef) w)(hz:81<sz):T22 T st (a.put (some 81) v) w:=by
 unfold T22;rw[put_eq hs hz,put_getD _ _ _ 82 (by decide),put_getD _ _ _ 86 (by decide),put_getD _ _ _ 87 (by decide),put_getD _ _ _ 88 (by decide)];exact h
theorem T22.p82(hs:SzIs a sz)(h:T st (a.tmps.getD 81 undef) v (a.tmps.getD 86 undef) (a.tmps.getD 87 undef) (a.tmps.getD 88 undef) w)(hz:82<sz):T22 T st (a.put (some 82) v) w:=by
 unfold T22;rw[put_getD _ _ _ 81 (by decide),put_eq hs hz,put_getD _ _ _ 86 (by decide),put_getD _ _ _ 87 (by decide),put_getD _ _ _ 88 (by decide)];exact h
theorem T22.p86(hs:SzIs a sz)(h:T st (a.tmps.getD 81 undef) (a.tmps.getD 82 undef) v (a.tmps.getD 87 undef) (a.tmps.getD 88 undef) w)(hz:86<sz):T22 T st (a.put (some 86) v) w:=by
 unfold T22;rw[put_getD _ _ _ 81 (by decide),put_getD _ _ _ 82 (by decide),put_eq hs hz,put_getD _ _ _ 87 (by decide),put_getD _ _ _ 88 (by decide)];exact h
theorem T22.p87(hs:SzIs a sz)(h:T st (a.tmps.getD 81 undef) (a.tmps.getD 82 undef) (a.tmps.getD 86 undef) v (a.tmps.getD 88 undef) w)(hz:87<sz):T22 T st (a.put (some 87) v) w:=by
 unfold T22;rw[put_getD _ _ _ 81 (by decide),put_getD _ _ _ 82 (by decide),put_getD _ _ _ 86 (by decide),put_eq hs hz,put_getD _ _ _ 88 (by decide)];exact h
theorem T22.p88(hs:SzIs a sz)(h:T st (a.tmps.getD 81 undef) (a.tmps.getD 82 undef) (a.tmps.getD 86 undef) (a.tmps.getD 87 undef) v w)(hz:88<sz):T22 T st (a.put (some 88) v) w:=by
 unfold T22;rw[put_getD _ _ _ 81 (by decide),put_getD _ _ _ 82 (by decide),put_getD _ _ _ 86 (by decide),put_getD _ _ _ 87 (by decide),put_eq hs hz];exact h
theorem T22.pn(h:T st (a.tmps.getD 81 undef) (a.tmps.getD 82 undef) (a.tmps.getD 86 undef) (a.tmps.getD 87 undef) (a.tmps.getD 88 undef) w):T22 T st (a.put none v) w:=h
end
structure Sgd(H:Hd)(S:List Seat)(D:Ic):Prop where
 fu:Full H S D
 pre:SgsPre H.sec S D.S
 l32:∀s∈D.S,s.fl≠1→s.sg.l.length=32
 ht:D.ht=H.ht
 b:D.b.l=rootN 20 H.leaves
 bp:D.bp.l=sha []
theorem sgl_call{H:Hd}{S:List Seat}{A:Option Addr}{c n:Nat}{w:World}(hN:S.length=n)(hn:H.num)(hH:H.ok w)(hf:H.full)(hS:SeatsAt w A S)(hk:SetOk S)(h0:0<S.length)(hsec:0≤H.sec∧H.sec≤4000000000)(hch:H.ch.size≤1000)(hKt:KTab w 1)(hK0:1<w.heap.size):
  Calls Tryz.prog 8 #[.agg H.cells,.slice A n c,.slice none 0 0,.slice none 0 0] w fun e w'=>∃D:Ic,e=.returned (.agg D.cells)∧CmOk D w'∧Sgd H S D∧Below w.heap.size w w':=by
 have:=c_sgl H S [] A none c 0 w hn hH hf.ne hS hk.good h0 hk.le (RowsAt.nil _ _ _) (fun x hx=>by cases hx) (by decide) hch hKt hK0;rw[hN,List.length_nil]at this;refine this.mono fun e w' ⟨C,T,g,c,rest,h1,h2,h3,h4,h5,h6,h7,h8,h9,h10,h11,h12,h13,h14,h15,h16,h17⟩=>?_
 rw[← hN]at h15;obtain⟨q1,q2⟩:=RsL.pre h14.pre h15;refine⟨⟨C.ht,C.rd,C.b,C.bt,C.bp,some ⟨g,0,none⟩,c,T⟩,?_,⟨ic_at h10 h11 (by rw[h7];decide) (by rw[h6];decide) h3 q1 hk.good h0 hk.le hsec h16,g,rest,rfl,h3⟩,⟨Full.mk' h14 rfl h15,q1,q2,h5,h8,h9⟩,h17⟩;rw[h1];unfold Ic.cells icAt icCells;rw[q1.len,hN]
end Go.Proofs.YtjhnnjhaklohhaaGreatDoor
