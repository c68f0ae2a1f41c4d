/- As XFlowc: a chain of writers; an operation that a later one of the chain waits for is told that this one has not come up. The reference's Ranked hands back the same seats in some order. (Printed by gen_ranked.py.) slices.IndexFunc, ContainsFunc over seats. (Printed by gen_idx.py.) A list made a set. (Printed by gen_set.py.) Small functions of the package: powers added, a block's name that is none, the canonical name. Numbers of eight bytes, on the wire; bytes with their count ahead. A commit of the package's, as it lies: its cells, what its validators say. -/
import Derived.Test.YtjhnnjhaklohhaaGreatDoorM2
import Derived.Test.YtjhnnjhaklohhaaGreatDoorM7
import Derived.Test.YtjhnnjhaklohhaaGreatDoorM1
import Derived.Test.YtjhnnjhaklohhaaGreatDoorM3
set_option linter.unusedVariables false
set_option linter.unusedSimpArgs false
set_option maxHeartbeats 4000000
set_option maxRecDepth 100000
namespace Go.Proofs.YtjhnnjhaklohhaaGreatDoor
open Go.RowKit
def boundOf(ops:Array Oper)(th:List Nat)(i:Nat):Option Nat:=
 (List.range th.length).find? fun k=>match(th[k]?).bind (ops[·]?)with
  |some o=>(deps o).contains i
  |none=>false
section
variable{P:Program}{ops:Array Oper}{Q:Exit→Act→World→Prop}
theorem wpAny_flow4(its:List (Option (Nat×Value)))(th:List Nat)(Th:Nat→World→Prop)(a0:Act)(hck:flowOk ops (its.map sReads)=true)(hch:chainOk ops th=true)
  (hstep:∀(i:Nat) (o:Oper) (s:Option (Nat×Value)),ops[i]?=some o→its[i]?=some s→∀a w c,Th c w→(∀k,rankOf th i=some k→c=k)→(∀k,boundOf ops th i=some k→c≤k)→Same ops a0 a→(∀j∈deps o,∀(t:Option (Nat×Value)),its[j]?=some t→SHolds t a)→
   ∀K:Act→World→Prop,(∀v w',SHolds s (a.put o.dst v)→Th (after (rankOf th i) c) w'→K (a.put o.dst v) w')→if Region.wanted o (yielded ops a.tmps)=true then o.wp P a w K Q else K (a.put o.dst undef) w)
  (hend:∀a w,Th th.length w→Same ops a0 a→(∀(i:Nat) (s:Option (Nat×Value)),its[i]?=some s→SHolds s a)→Q .normal a w):
  ∀(fuel:Nat) (listed:Array Bool) (a:Act) (w:World) (c:Nat),listed.size=ops.size→(List.range ops.size).countP (fun i=>!listed.getD i true)≤fuel→Th c w→c≤th.length→(∀k i,th[k]?=some i→(listed.getD i false=true↔k<c))→Same ops a0 a→
   (∀(i:Nat) (o:Oper) (s:Option (Nat×Value)),ops[i]?=some o→its[i]?=some s→listed.getD i false=true→(∀j∈deps o,listed.getD j false=true)∧SHolds s a)→wpAny P .any ops Q fuel listed a w:=by
 have hlen:its.length=ops.size:=by
  simp only[flowOk,Bool.and_eq_true,beq_iff_eq,List.length_map]at hck;exact hck.1
 have hchain:∀k i,th[k]?=some i→i<ops.size∧rankOf th i=some k∧∀j o,0<k→th[k-1]?=some j→ops[i]?=some o→j∈deps o:=by
  intro k i hk;have hkl:k<th.length:=(List.getElem?_eq_some_iff.1 hk).1;have h:=List.all_eq_true.1 hch k (List.mem_range.2 hkl);rw[hk]at h;simp only[Bool.and_eq_true,decide_eq_true_eq,beq_iff_eq]at h;refine⟨h.1.1,h.1.2,fun j o h0 hj ho=>?_⟩;obtain⟨k,rfl⟩:∃m,k=m+1:=⟨k-1,by omega⟩;have h2:=h.2;simp only[Nat.add_sub_cancel]at hj;simp only[hj,ho]at h2;simpa using h2
 have hall:∀(listed:Array Bool) (a:Act) (w:World) (c:Nat),listed.size=ops.size→Region.ready .any ops listed=[]→Th c w→c≤th.length→(∀k i,th[k]?=some i→(listed.getD i false=true↔k<c))→Same ops a0 a→
   (∀(i:Nat) (o:Oper) (s:Option (Nat×Value)),ops[i]?=some o→its[i]?=some s→listed.getD i false=true→(∀j∈deps o,listed.getD j false=true)∧SHolds s a)→Q .normal a w:=by
  intro listed a w c hls hr hT hc hcl hs hinv;have hdone:∀i,i<ops.size→listed.getD i false=true:=by
   intro i;induction i using Nat.strongRecOn with
   |_ i ih=>
    intro hi;by_cases hli:listed.getD i false=true
    ·exact hli
    ·exfalso;obtain⟨o,ho⟩:∃o,ops[i]?=some o:=⟨ops[i],Array.getElem?_eq_getElem hi⟩;have hd:=flow_deps hck ho;have hmem:i∈Region.ready .any ops listed:=by
      unfold Region.ready;rw[List.mem_filter];refine⟨List.mem_range.2 hi,?_⟩;have h1:listed.getD i true=false:=by
       have hi':i<listed.size:=by omega
       simp[Array.getD_eq_getD_getElem?,hi']at hli⊢;exact hli
      rw[h1,ho];simp only[Bool.not_false,Bool.true_and,Option.map_some,Option.getD_some,Array.all_eq_true'];intro e he;by_cases hbd:Region.binds .any e=true
      ·have hlt:=hd _ (dep_mem he hbd);simp[hbd,ih e.on hlt (by omega)]
      ·simp at hbd;simp[hbd]
     rw[hr]at hmem
     cases hmem
  have hcE:c=th.length:=by
   rcases Nat.lt_or_ge c th.length with h|h
   ·have h1:th[c]?=some th[c]:=List.getElem?_eq_getElem h;have h2:=(hcl c _ h1).1 (hdone _ (hchain c _ h1).1);omega
   ·omega
  subst hcE;refine hend a w hT hs fun i s hit=>?_
  have hi:i<ops.size:=by
   have:=(List.getElem?_eq_some_iff.1 hit).1;omega
  exact(hinv i ops[i] s (Array.getElem?_eq_getElem hi) hit (hdone i hi)).2
 intro fuel;induction fuel with
 |zero=>
  intro listed a w c hls hcn hT hc hcl hs hinv;have hr:Region.ready .any ops listed=[]:=by
   unfold Region.ready;rw[List.filter_eq_nil_iff];intro i hi;have h0:(List.range ops.size).countP (fun i=>!listed.getD i true)=0:=by omega
   have:=List.countP_eq_zero.1 h0 i hi;simp at this;simp[this]
  exact⟨hr,hall listed a w c hls hr hT hc hcl hs hinv⟩
 |succ fuel ih=>
  intro listed a w c hls hcn hT hc hcl hs hinv;refine⟨fun hr=>hall listed a w c hls hr hT hc hcl hs hinv,fun i hi=>?_⟩;unfold Region.ready at hi;rw[List.mem_filter]at hi;obtain⟨hir,hi2⟩:=hi;have hin:i<ops.size:=List.mem_range.1 hir;obtain⟨o,ho⟩:∃o,ops[i]?=some o:=⟨ops[i],Array.getElem?_eq_getElem hin⟩;obtain⟨s,hit⟩:∃s,its[i]?=some s:=⟨its[i]'(by omega),List.getElem?_eq_getElem (by omega)⟩;rw[ho]at hi2;simp only[Bool.and_eq_true,Option.map_some,Option.getD_some,Array.all_eq_true']at hi2;obtain⟨hun,hed⟩:=hi2;have hunl:listed.getD i true=false:=by simpa using hun
  have hunf:listed.getD i false=false:=getD_both hunl;have hdl:∀j∈deps o,listed.getD j false=true:=by
   intro j hj;obtain⟨e,he,hb',rfl⟩:=dep_edge hj;have:=hed e he;simpa [hb']using this
  have hrank:∀k,rankOf th i=some k→c=k∧th[k]?=some i:=by
   intro k hk;unfold rankOf at hk;rw[List.findIdx?_eq_some_iff_getElem]at hk;obtain⟨hkl,hke,_⟩:=hk;have hk':th[k]?=some i:=by
    rw[List.getElem?_eq_getElem hkl]
    congr 1
    simpa using hke
   have h1:¬ k<c:=fun h=>by
    have:=(hcl k i hk').2 h;rw[hunf]at this
    cases this
   refine⟨?_,hk'⟩;rcases Nat.eq_zero_or_pos k with h0|h0
   ·omega
   ·have hj:th[k-1]?=some th[k-1]:=List.getElem?_eq_getElem (by omega);have hd:=(hchain k i hk').2.2 _ o h0 hj ho;have:=(hcl (k-1) _ hj).1 (hdl _ hd);omega
  have hbound:∀k,boundOf ops th i=some k→c≤k:=by
   intro k hk;unfold boundOf at hk;have h1:=List.find?_some hk;rcases hj:th[k]? with _|j
   ·simp[hj]at h1
   ·rcases ho':ops[j]? with _|o'
    ·simp[hj,ho']at h1
    ·simp only[hj,Option.bind_some,ho',List.contains_eq_mem,decide_eq_true_eq]at h1;refine Nat.le_of_not_lt fun hlt=>?_
     have hl:=(hcl k j hj).2 hlt;have hjo:j<ops.size:=(Array.getElem?_eq_some_iff.1 ho').1;have:=(hinv j o' _ ho' (List.getElem?_eq_getElem (by omega)) hl).1 i h1;rw[hunf]at this
     cases this
  refine wpOp_step ho fun K' hK=>?_
  refine hstep i o s ho hit a w c hT (fun k hk=>(hrank k hk).1) hbound hs (fun j hj t hjt=>?_) K' (fun v w' hitw hT'=>hK _ _ ?_)
  ·have hjn:j<ops.size:=Nat.lt_trans (flow_deps hck ho j hj) hin;exact(hinv j ops[j] t (Array.getElem?_eq_getElem hjn) hjt (hdl j hj)).2
  ·have hset:∀k,(listed.setIfInBounds i true).getD k false=true→k=i∨listed.getD k false=true:=by
    intro k hk;by_cases hki:k=i
    ·exact .inl hki
    ·right
     simpa [Array.getD_eq_getD_getElem?,Array.getElem?_setIfInBounds_ne (Ne.symm hki)]using hk
   have hkeep:∀k,listed.getD k false=true→(listed.setIfInBounds i true).getD k false=true:=by
    intro k hk;by_cases hki:k=i
    ·subst hki;simp[Array.getD_eq_getD_getElem?,show k<listed.size by omega]
    ·simpa [Array.getD_eq_getD_getElem?,Array.getElem?_setIfInBounds_ne (Ne.symm hki)]using hk
   have hself:(listed.setIfInBounds i true).getD i false=true:=by simp[Array.getD_eq_getD_getElem?,show i<listed.size by omega]
   refine ih _ _ _ (after (rankOf th i) c) (by simpa using hls) ?_ hT' ?_ ?_ (hs.put ho v) ?_
   ·have hlt:(List.range ops.size).countP (fun k=>!(listed.setIfInBounds i true).getD k true)<(List.range ops.size).countP (fun k=>!listed.getD k true):=by
     refine countP_lt_of (x:=i) _ ?_ hir (by simp[hunl]) (by simp[Array.getD_eq_getD_getElem?,show i<listed.size by omega]);intro k hk hk';by_cases hki:k=i
     ·subst hki;simp[hunl]
     ·simpa [Array.getD_eq_getD_getElem?,Array.getElem?_setIfInBounds_ne (Ne.symm hki)]using hk'
    omega
   ·cases hr:rankOf th i with
    |none=>exact hc
    |some k=>
     obtain⟨rfl,hk⟩:=hrank k hr;have:=(List.getElem?_eq_some_iff.1 hk).1;show c+1≤_
     omega
   ·intro k j hkj
    cases hr:rankOf th i with
    |none=>
     have hji:j≠i:=by
      rintro rfl;rw[(hchain k j hkj).2.1]at hr
      cases hr
     show _↔k<c
     rw[← hcl k j hkj];simp[Array.getD_eq_getD_getElem?,Array.getElem?_setIfInBounds_ne (Ne.symm hji)]
    |some k'=>
     obtain⟨rfl,hk'⟩:=hrank k' hr;show _↔k<c+1
     by_cases hji:j=i
     ·subst hji;have:some k=some c:=(hchain k j hkj).2.1.symm.trans hr;injection this with this;subst this;simp[hself]
     ·have hkc:k≠c:=by
       rintro rfl;rw[hkj]at hk';injection hk' with hk';exact hji hk'
      have:=hcl k j hkj;have e:(listed.setIfInBounds i true).getD j false=listed.getD j false:=by simp[Array.getD_eq_getD_getElem?,Array.getElem?_setIfInBounds_ne (Ne.symm hji)]
      rw[e,this];omega
   ·intro k ok kt hok hkt hkl;rcases hset k hkl with rfl|hkl'
    ·rw[ho]at hok;rw[hit]at hkt;injection hok with hok;injection hkt with hkt;subst hok hkt;exact⟨fun j hj=>hkeep j (hdl j hj),hitw⟩
    ·obtain⟨hkd,hkh⟩:=hinv k ok kt hok hkt hkl';refine⟨fun j hj=>hkeep j (hkd j hj),?_⟩
     cases kt with
     |none=>trivial
     |some p=>
      obtain⟨t,u⟩:=p;have hne:o.dst≠some t:=by
       intro hdt;have htr:t∈(((its.map sReads)[k]?).getD []):=by simp[List.getElem?_map,hkt,sReads]
       rcases flow_reads hck hok ho htr hdt with h|h
       ·subst h;rw[hunf]at hkl'
        cases hkl'
       ·have:=hkd i h;rw[hunf]at this
        cases this
      show _=u
      rw[put_getD _ _ _ _ hne];exact hkh
def StepOk4(P:Program)(ops:Array Oper)(Q:Exit→Act→World→Prop)(F:List (Nat×Value))(sz:Nat)(Th:Nat→World→Prop)(its:List (Option (Nat×Value)))(r:Option Nat×Option Nat)(o:Oper)(s:Option (Nat×Value)):Prop:=
 ∀a w c,Th c w→(∀k,r.1=some k→c=k)→(∀k,r.2=some k→c≤k)→SzIs a sz→LiveAll F a→SDeps its a (deps o)→
  ∀K:Act→World→Prop,(∀v w',SHolds s (a.put o.dst v)→Th (after r.1 c) w'→K (a.put o.dst v) w')→if Region.wanted o (yielded ops a.tmps)=true then o.wp P a w K Q else K (a.put o.dst undef) w
def StepsOk4(P:Program)(ops:Array Oper)(Q:Exit→Act→World→Prop)(F:List (Nat×Value))(sz:Nat)(Th:Nat→World→Prop)(all:List (Option (Nat×Value))):List (Option Nat×Option Nat)→List Oper→List (Option (Nat×Value))→Prop
 |r::rs,o::os,s::ss=>StepOk4 P ops Q F sz Th all r o s∧StepsOk4 P ops Q F sz Th all rs os ss
 |_,_,_=>True
theorem StepsOk4.get{F:List (Nat×Value)}{sz:Nat}{Th:Nat→World→Prop}{all:List (Option (Nat×Value))}:∀(rs:List (Option Nat×Option Nat)) (os:List Oper) (ss:List (Option (Nat×Value))),StepsOk4 P ops Q F sz Th all rs os ss→∀(i:Nat) (r:Option Nat×Option Nat) (o:Oper) (s:Option (Nat×Value)),rs[i]?=some r→os[i]?=some o→ss[i]?=some s→StepOk4 P ops Q F sz Th all r o s
 | [],_,_,_,i,r,o,s,hr,_,_=>by simp at hr
 |_::_,[],_,_,i,r,o,s,_,ho,_=>by simp at ho
 |_::_,_::_,[],_,i,r,o,s,_,_,hs=>by simp at hs
 |r::rs,o::os,s::ss,h,0,r',o',s',hr,ho,hs=>by
  simp at hr ho hs;subst hr ho hs;exact h.1
 |r::rs,o::os,s::ss,h,i+1,r',o',s',hr,ho,hs=>StepsOk4.get rs os ss h.2 i r' o' s' (by simpa using hr) (by simpa using ho) (by simpa using hs)
theorem wp_flow4_use{id:Nat}(F:List (Nat×Value))(its:List (Option (Nat×Value)))(th:List Nat)(rs:List (Option Nat×Option Nat))(Th:Nat→World→Prop){a0:Act}{W:World}(sz:Nat)(hm:P.follows .mixedOrders=true)(hck:flowOk ops (its.map sReads)=true)(hch:chainOk ops th=true)(hrs:(List.range ops.size).map (fun i=>(rankOf th i,boundOf ops th i))=rs)
  (hlk:liveOk ops (F.map (·.1))=true)(hsz:SzIs a0 sz)(hdf:DfNil a0)(hl:LiveAll F a0)(h0:Th 0 W.drew)(hstep:StepsOk4 P ops Q F sz Th its rs ops.toList its)
  (hend:∀a w,Th th.length w→SzIs a sz→DfNil a→LiveAll F a→SAll a its→Q .normal a w):(Code.region id ops true).wp P Q a0 W:=
 wp_region_any hm (wpAny_flow4 its th Th a0 hck hch
  (fun i o s ho hit a w c hT hr hbd hs hd K hK=>StepsOk4.get rs _ _ hstep i (rankOf th i,boundOf ops th i) o s (by
    have hi:i<ops.size:=(Array.getElem?_eq_some_iff.1 ho).1;rw[← hrs];simp[hi]) (by simpa using ho) hit a w c hT hr hbd ⟨hs.1.trans hsz.out⟩ (live_of_same hs F hlk hl) (sdeps_of _ hd) K hK)
  (fun a w hT hs hh=>hend a w hT ⟨hs.1.trans hsz.out⟩ ⟨hs.2.1.trans hdf.out⟩ (live_of_same hs F hlk hl) (sall_of its hh))
  ops.size (Array.replicate ops.size false) a0 _ 0 (by simp) (Nat.le_trans (List.countP_le_length) (by simp)) h0 (Nat.zero_le _)
  (fun k i _=>⟨fun h=>absurd h (by rw[getD_replicate_false];decide),fun h=>absurd h (Nat.not_lt_zero _)⟩) ⟨rfl,rfl,fun _ _=>rfl⟩ (fun i o s ho hit hl=>by
   have hi:i<ops.size:=(Array.getElem?_eq_some_iff.1 ho).1;simp[Array.getD_eq_getD_getElem?,hi]at hl))
end
theorem seat_info:(Tryz.prog.info? 48).map (fun i=>(i.zero,i.size,i.bytes))=some (some (.agg #[.string ⟨#[]⟩,.string ⟨#[]⟩,.int .i64 0,.int .i64 0]),4,48):=by kernel_rfl
theorem flat_set{α:Type}:∀{R:List (List α)} {i:Nat} {r rest:List α},(∀x∈R,x.length=4)→i<R.length→r.length=4→
  (R.flatten++rest).take (i*4)++r++(R.flatten++rest).drop (i*4+4)=(R.set i r).flatten++rest
 | [],i,_,_,_,hi,_=>absurd hi (Nat.not_lt_zero i)
 |x::R,0,r,rest,h,_,_=>by
  have hx:=h x (List.mem_cons_self ..);rw[Nat.zero_mul,List.take_zero,List.nil_append,Nat.zero_add,List.flatten_cons,List.append_assoc,List.drop_append,hx,Nat.sub_self,List.drop_of_length_le (by omega),List.drop_zero,List.nil_append,List.set_cons_zero,List.flatten_cons,List.append_assoc]
 |x::R,i+1,r,rest,h,hi,hr=>by
  have hx:=h x (List.mem_cons_self ..);have ih:=flat_set (R:=R) (i:=i) (r:=r) (rest:=rest) (fun y hy=>h y (List.mem_cons_of_mem _ hy)) (by simpa using hi) hr;have e:(x::R).flatten++rest=x++(R.flatten++rest):=by rw[List.flatten_cons,List.append_assoc]
  have e1:(x++(R.flatten++rest)).take ((i+1)*4)=x++(R.flatten++rest).take (i*4):=by
   rw[List.take_append,hx,List.take_of_length_le (by rw[hx];omega),show(i+1)*4-4=i*4 by omega]
  have e2:(x++(R.flatten++rest)).drop ((i+1)*4+4)=(R.flatten++rest).drop (i*4+4):=by
   rw[List.drop_append,hx,List.drop_of_length_le (by rw[hx];omega),List.nil_append,show(i+1)*4+4-4=i*4+4 by omega]
  rw[e,e1,e2,List.set_cons_succ,List.flatten_cons,List.append_assoc x,List.append_assoc x,List.append_assoc x,ih]
theorem seatRows4(S:List Seat):∀r∈seatRows S,r.length=4:=by
 intro r hr;obtain⟨s,_,rfl⟩:=List.mem_map.1 hr;rfl
theorem seatRows_set(S:List Seat)(i:Nat)(s:Seat):seatRows (S.set i s)=(seatRows S).set i s.cells:=by unfold seatRows;rw[List.map_set]
def SBl(S:List Seat)(rest:List Value):Array Value:=((seatRows S).flatten++rest).toArray
def SB(w:World)(g:Nat)(S:List Seat)(rest:List Value):Prop:=Blk w g 48 (SBl S rest)
theorem SBl_set(S:List Seat)(rest:List Value)(i:Nat)(s:Seat)(hi:i<S.length):putAt (SBl S rest) (i*4) s.cells.toArray=SBl (S.set i s) rest:=by
 unfold putAt SBl;rw[seatRows_set,← flat_set (seatRows4 S) (by rw[seatRows_length];exact hi) (show s.cells.length=4 from rfl)];rfl
theorem SB.cell{w:World}{g:Nat}{S:List Seat}{rest:List Value}(h:SB w g S rest){i:Nat}{s:Seat}(hs:S[i]?=some s){j:Nat}{v:Value}(hv:s.cells[j]?=some v):w.cell? ⟨g,i*4+j,none⟩=some v:=by
 have hj:j<4:=(List.getElem?_eq_some_iff.1 hv).1;have hi:i<S.length:=(List.getElem?_eq_some_iff.1 hs).1;rw[Blk.cell h];unfold SBl;rw[List.getElem?_toArray,List.getElem?_append_left (by rw[flatten_len (seatRows4 S),seatRows_length];omega),flatten_get (seatRows4 S) i _ (seatRows_get hs) j hj,hv]
theorem SBl_size(S:List Seat)(rest:List Value):S.length*4≤(SBl S rest).size:=by
 unfold SBl;rw[List.size_toArray,List.length_append,flatten_len (seatRows4 S),seatRows_length];omega
def swp(S:List Seat)(k m:Nat)(sk sm:Seat):Nat→List Seat
 |0=>S
 |1=>S.set k sm
 |_=>(S.set k sm).set m sk
theorem SBl_room(S:List Seat)(rest:List Value)(i:Nat)(hi:i<S.length):i*4+4≤(SBl S rest).size:=by
 have:=SBl_size S rest;omega
theorem OwnR.sb{base:Nat}{w:World}{A:Option Addr}{c:Nat}{S:List Seat}(h:OwnR 48 4 base w A c (seatRows S))(hn:0<S.length):∃g rest,A=some ⟨g,0,none⟩∧base≤g∧SB w g S rest∧(SBl S rest).size=c*4∧S.length≤c:=by
 rcases h.form with⟨_,_,h0⟩|⟨g,cur,h1,h2,h3,h4,h5,h6,h7⟩
 ·rw[← seatRows_length,h0]at hn;exact absurd hn (Nat.not_lt_zero 0)
 ·have e:cur=SBl S (cur.toList.drop ((seatRows S).length*4)):=by
   unfold SBl;rw[← h7,List.take_append_drop]
  rw[seatRows_length]at h5;refine⟨g,cur.toList.drop ((seatRows S).length*4),h1,h2,?_,?_,h5⟩
  ·unfold SB;rw[← e];exact h4
  ·rw[← e];exact h6
theorem SB.own{base:Nat}{w:World}{g c:Nat}{S:List Seat}{rest:List Value}(h:SB w g S rest)(hb:base≤g)(hc:(SBl S rest).size=c*4)(hl:S.length≤c)(hm:c≤maxLen):OwnR 48 4 base w (some ⟨g,0,none⟩) c (seatRows S):=by
 refine⟨seatRows4 S,by rw[flatten_len (seatRows4 S)],.inr ⟨g,c,SBl S rest,rfl,hb,h,by rw[seatRows_length];exact hl,hm,hc,?_⟩⟩;unfold SBl;rw[← flatten_len (seatRows4 S)];exact List.take_left
theorem OwnR.max{e:TypeId}{k base:Nat}{w:World}{A:Option Addr}{c:Nat}{R:List (List Value)}(h:OwnR e k base w A c R):c≤maxLen:=by
 rcases h.2.2 with⟨h1,_⟩|⟨g,cap,cur,h1,_,_,_,h5,_⟩
 ·injection h1 with _ _ h1;rw[h1];exact Nat.zero_le _
 ·injection h1 with _ _ h1;rw[h1];exact h5
theorem SBl_size_set(S:List Seat)(rest:List Value)(i:Nat)(s:Seat):(SBl (S.set i s) rest).size=(SBl S rest).size:=by
 unfold SBl;rw[List.size_toArray,List.size_toArray,List.length_append,List.length_append,flatten_len (seatRows4 _),flatten_len (seatRows4 _),seatRows_length,seatRows_length,List.length_set]
theorem c_Ranked(S:List Seat)(A:Option Addr)(c:Nat)(w:World)(hS:SeatsAt w A S)(hA:S=[]→A=none∧c=0)(h20:S.length≤20):
  Calls Tryz.prog 25 #[.slice A S.length c] w fun e w'=>∃S' A' c',e=.returned (.slice A' S'.length c')∧List.Perm S' S∧OwnR 48 4 w.heap.size w' A' c' (seatRows S')∧Below w.heap.size w w':=by
 suffices h:∀w0,(SeatsAt w0 A S)→Below w0.heap.size w0 w→Calls Tryz.prog 25 #[.slice A S.length c] w fun e w'=>∃S' A' c',e=.returned (.slice A' S'.length c')∧List.Perm S' S∧OwnR 48 4 w0.heap.size w' A' c' (seatRows S')∧Below w0.heap.size w0 w' from h w hS (bz_refl w)
 clear hS;intro w0 hS hB;refine enter_abs Tryz.func25 rfl 78 rfl (by simp) ?_;intro a hs hd hargs;have s0:=hargs 0 _ rfl;clear hargs;refine wp_seq ?_;refine wp_region_list ?_;show wpList _ _ _ [_] _ _
 refine tail_op rfl (fun K hK=>?_);go_simp;refine hK _ _ ?_;clear hK K;refine act_put (d:=2) _ hs hd (by decide) [(0,_)] ⟨s0,trivial⟩ rfl ?_;clear hs hd s0;intro a hs hd zl;obtain⟨n,hn⟩:∃n,Is S.length n:=is_self _;have hn20:n≤20:=by rw[← hn.out];exact h20
 obtain⟨-,s0,-⟩:=zl;rw[show S.length=n from hn.out]at s0;by_cases hz:n=0
 ·subst hz;have hS0:S=[]:=List.eq_nil_of_length_eq_zero hn.out;obtain⟨rfl,rfl⟩:=hA hS0;subst hS0;refine wp_seq ?_;obtain⟨i0,hi0,-,-,-⟩:=info_parts seat_info;have ka:=fun(w:World) (ty:TypeId)=>run_append_of_nil (P:=Tryz.prog) w w.heap.size 26 ty 48 _ 4 Tryz.underlying26 hi0 _ _ _ (World.ownsRow_nil w w.heap.size 48 4) 0
  refine wp_region_list ?_;show wpList _ _ _ [_,_,_] _ _
  refine tail_op rfl (fun K hK=>?_);have q0:=gd s0;go_simp;clear q0;refine hK _ _ ?_;clear hK K;refine act_put (d:=6) _ hs hd (by decide) [(0,_)] ⟨s0,trivial⟩ rfl ?_;clear hs hd s0;intro a hs hd zl;refine wn 2 ?_;clear hs hd zl;intro a hs hd zl;clear ka;refine wn 3 ?_;clear hs hd zl;intro a hs hd zl;refine wp_block ?_;refine wp_loop_once ?_;refine wn 1 ?_;clear hs hd zl;intro a hs hd zl;refine wp_seq ?_;refine wp_cond_false (vL zl 0) ?_;refine wp_exit ?_;repeat refine then_exit ?_
  refine inBlock_exit ?_;refine wn 2 ?_;clear hs hd zl;intro a hs hd zl;refine wp_ret ?_;exact end_tmp rfl hd (vL zl 0) ⟨[],none,0,rfl,List.Perm.refl _,OwnR.nil _ _ _ _,hB⟩
 refine wp_seq ?_;refine wp_region_list ?_;show wpList _ _ _ [_,_,_] _ _
 refine tail_op rfl (fun K hK=>?_);have q0:=gd s0;go_simp;clear q0;refine hK _ _ ?_;clear hK K;refine act_put (d:=6) _ hs hd (by decide) [(0,_)] ⟨s0,trivial⟩ rfl ?_;clear hs hd s0;intro a hs hd zl;refine tail_op rfl (fun K hK=>?_);have q6:=gL zl 0;have hSa:=hS.after hB;have s6:=vL zl 0;refine op_app_copy (c2:=c) (R:=seatRows S) (.const (Value.slice none 0 0)) (.tmp 6) rfl Tryz.underlying26 seat_info rfl (by decide) rfl (by rw[seatRows_length,hn.out];exact s6) hSa (by rw[seatRows_length,hn.out];omega) (fun r hr=>by obtain⟨s,_,rfl⟩:=List.mem_map.1 hr;exact seat_one s) (by rw[seatRows_length];omega) (by decide) ?_;intro A' c' w2 hown hbel;rw[seatRows_length,show S.length=n from hn.out];clear q6;refine hK _ _ (tP hs hd zl ?_);clear hK K hs hd zl s6;intro a hs hd zl;have hBo:=hB.size;replace hB:=bz_then hB hbel;clear hbel hSa;refine wn 1 ?_;clear hs hd zl;intro a hs hd zl;obtain⟨g,rest,rfl,hge,hsb,hsz,hlc⟩:=hown.sb (by rw[hn.out];omega);have hcm:=hown.max;have hg0:w0.heap.size≤g:=Nat.le_trans hBo hge;clear hown hge hBo;refine wn 3 ?_;clear hs hd zl;intro a hs hd zl;refine wp_block ?_;obtain⟨s10,s9,-,s3,-,-,-,-⟩:=zl;refine wp_loop (fun a w=>∃(i:Nat) (S':List Seat),SzIs a 78∧DfNil a∧LiveAll [(3,.slice (some ⟨g,0,none⟩) n c'),(9,.int .i64 ((n:Nat):Int)),(10,.int .i64 ((i:Nat):Int))] a∧(i≤n)∧(Below w0.heap.size w0 w)∧(List.Perm S' S)∧(SB w g S' rest)∧((SBl S' rest).size=c'*4))
  (fun a _=>n-(intOf (a.tmps.getD 10 undef)).toNat) ⟨0,S,hs,hd,⟨s3,s9,s10,trivial⟩,Nat.zero_le _,hB,List.Perm.refl _,hsb,hsz⟩ ?_
 clear hs hd s3 s9 s10;rintro a w ⟨i,S',hs,hd,⟨s3,s9,s10,-⟩,hi,hB,hp,hsb,hsz⟩;have hm:(intOf (a.tmps.getD 10 undef)).toNat=i:=by rw[s10];simp[intOf]
 rw[hm];clear hm;have hHi:=Is.hid hi;by_cases hlt:i<n
 ·have e1:decide (i<n)=true:=decide_eq_true hlt;have e2:decide ((i:Int)<(n:Int))=true:=decide_eq_true (by omega);have ew:IntKind.i64.wrap ((i:Int)+1)=((i+1:Nat):Int):=by rw[IntWalk.i64_in _ (by omega)];omega
  refine wp_seq ?_;refine wp_region_list ?_;show wpList _ _ _ [_] _ _
  refine tail_op rfl (fun K hK=>?_);have q9:=gd s9;have q10:=gd s10;go_simp;clear q9 q10;refine hK _ _ ?_;clear hK K;refine act_put (d:=11) _ hs hd (by decide) [(3,_),(9,_),(10,_)] ⟨s3,s9,s10,trivial⟩ rfl ?_;clear hs hd s3 s9 s10;intro a hs hd zl;refine wn 4 ?_;clear hs hd zl;intro a hs hd zl;refine wp_block ?_;clear e1 e2 ew;obtain⟨s5,-,-,-,-,s3,s9,s10,-⟩:=zl;refine wp_loop (fun a w=>∃(k:Nat) (S':List Seat),SzIs a 78∧DfNil a∧LiveAll [(3,.slice (some ⟨g,0,none⟩) n c'),(9,.int .i64 ((n:Nat):Int)),(10,.int .i64 ((i:Nat):Int)),(5,.int .i64 ((k:Nat):Int))] a∧(k≤i)∧(Below w0.heap.size w0 w)∧(List.Perm S' S)∧(SB w g S' rest)∧((SBl S' rest).size=c'*4))
   (fun a _=>(intOf (a.tmps.getD 5 undef)).toNat) ⟨i,S',hs,hd,⟨s3,s9,s10,s5,trivial⟩,Nat.le_refl _,hB,hp,hsb,hsz⟩ ?_
  clear hs hd s3 s5 s9 s10;rintro a w ⟨k,S',hs,hd,⟨s3,s9,s10,s5,-⟩,hk,hB,hp,hsb,hsz⟩;have hm:(intOf (a.tmps.getD 5 undef)).toNat=k:=by rw[s5];simp[intOf]
  rw[hm];clear hm;have hln:S'.length=n:=hp.length_eq.trans hn.out;have HSZ:=Is.hid hsz;clear hsz;by_cases hk0:k=0
  ·subst hk0;refine wp_seq ?_;refine wp_seq ?_;refine fl2 (F:=[(3,_),(5,_),(9,_),(10,_)]) [FItem.eq 14 _,FItem.eq 15 (.bool false),FItem.eq 16 (.bool false),FItem.eq 17 _,FItem.eq 18 _,FItem.eq 19 _,FItem.eq 20 _,FItem.eq 21 _,FItem.eq 22 _,FItem.eq 23 _,FItem.eq 24 _,FItem.eq 25 _,FItem.eq 26 _,FItem.eq 27 _,FItem.eq 28 _,FItem.eq 29 (undef),FItem.eq 30 _,FItem.eq 31 _,FItem.eq 32 _,FItem.eq 33 _,FItem.eq 34 _,FItem.eq 35 _,FItem.eq 36 _,FItem.eq 37 _,FItem.eq 38 _,FItem.eq 39 _,FItem.eq 40 _,FItem.eq 41 _,FItem.eq 42 (undef),FItem.eq 43 _,FItem.eq 44 _,FItem.eq 45 _,FItem.eq 46 _,FItem.eq 47 _,FItem.eq 48 _,FItem.eq 49 _,FItem.eq 50 _,FItem.eq 51 _,FItem.eq 52 _,FItem.eq 53 _,FItem.eq 54 _,FItem.eq 55 _,FItem.eq 56 _] 43 hs hd ⟨s3,s5,s9,s10,trivial⟩
    ⟨sP bq,
     sP bq,
     sP bq,
     sN,
     sN,
     sN,
     sN,
     sN,
     sN,
     sN,
     sN,
     sN,
     sN,
     sN,
     sN,
     sN,
     (fun a u hb hs hl hd K hK=>by have s3:=gL hl 0;have g29:=vD hd 15;clear hd;refine step_un rfl (j:=15) (d:=29) rfl rfl g29 ?_;exact kE hK hs),
     (fun a u hb hs hl hd K hK=>by have s5:=gL hl 1;have g29:=vD hd 15;clear hd;refine step_un rfl (j:=15) (d:=29) rfl rfl g29 ?_;exact kE hK hs),
     (fun a u hb hs hl hd K hK=>by have s30:=gD hd 16;have s31:=gD hd 17;have g29:=vD hd 15;clear hd;refine step_un rfl (j:=15) (d:=29) rfl rfl g29 ?_;exact kE hK hs),
     (fun a u hb hs hl hd K hK=>by have s32:=gD hd 18;have g29:=vD hd 15;clear hd;refine step_un rfl (j:=15) (d:=29) rfl rfl g29 ?_;exact kE hK hs),
     (fun a u hb hs hl hd K hK=>by have s33:=gD hd 19;have g29:=vD hd 15;clear hd;refine step_un rfl (j:=15) (d:=29) rfl rfl g29 ?_;exact kE hK hs),
     (fun a u hb hs hl hd K hK=>by have s3:=gL hl 0;have g29:=vD hd 15;clear hd;refine step_un rfl (j:=15) (d:=29) rfl rfl g29 ?_;exact kE hK hs),
     (fun a u hb hs hl hd K hK=>by have s5:=gL hl 1;have g29:=vD hd 15;clear hd;refine step_un rfl (j:=15) (d:=29) rfl rfl g29 ?_;exact kE hK hs),
     (fun a u hb hs hl hd K hK=>by have s36:=gD hd 22;have g29:=vD hd 15;clear hd;refine step_un rfl (j:=15) (d:=29) rfl rfl g29 ?_;exact kE hK hs),
     (fun a u hb hs hl hd K hK=>by have s35:=gD hd 21;have s37:=gD hd 23;have g29:=vD hd 15;clear hd;refine step_un rfl (j:=15) (d:=29) rfl rfl g29 ?_;exact kE hK hs),
     (fun a u hb hs hl hd K hK=>by have s38:=gD hd 24;have g29:=vD hd 15;clear hd;refine step_un rfl (j:=15) (d:=29) rfl rfl g29 ?_;exact kE hK hs),
     (fun a u hb hs hl hd K hK=>by have s39:=gD hd 25;have g29:=vD hd 15;clear hd;refine step_un rfl (j:=15) (d:=29) rfl rfl g29 ?_;exact kE hK hs),
     (fun a u hb hs hl hd K hK=>by have s34:=gD hd 20;have s40:=gD hd 26;have g29:=vD hd 15;clear hd;refine step_un rfl (j:=15) (d:=29) rfl rfl g29 ?_;exact kE hK hs),
     (fun a u hb hs hl hd K hK=>by have s41:=gD hd 27;have g29:=vD hd 15;clear hd;refine step_un rfl (j:=15) (d:=29) rfl rfl g29 ?_;exact kE hK hs),
     (fun a u hb hs hl hd K hK=>by have s3:=gL hl 0;have g42:=vD hd 28;clear hd;refine step_un rfl (j:=28) (d:=42) rfl rfl g42 ?_;exact kE hK hs),
     (fun a u hb hs hl hd K hK=>by have s5:=gL hl 1;have g42:=vD hd 28;clear hd;refine step_un rfl (j:=28) (d:=42) rfl rfl g42 ?_;exact kE hK hs),
     (fun a u hb hs hl hd K hK=>by have s43:=gD hd 29;have s44:=gD hd 30;have g42:=vD hd 28;clear hd;refine step_un rfl (j:=28) (d:=42) rfl rfl g42 ?_;exact kE hK hs),
     (fun a u hb hs hl hd K hK=>by have s45:=gD hd 31;have g42:=vD hd 28;clear hd;refine step_un rfl (j:=28) (d:=42) rfl rfl g42 ?_;exact kE hK hs),
     (fun a u hb hs hl hd K hK=>by have s46:=gD hd 32;have g42:=vD hd 28;clear hd;refine step_un rfl (j:=28) (d:=42) rfl rfl g42 ?_;exact kE hK hs),
     (fun a u hb hs hl hd K hK=>by have s3:=gL hl 0;have g42:=vD hd 28;clear hd;refine step_un rfl (j:=28) (d:=42) rfl rfl g42 ?_;exact kE hK hs),
     (fun a u hb hs hl hd K hK=>by have s5:=gL hl 1;have g42:=vD hd 28;clear hd;refine step_un rfl (j:=28) (d:=42) rfl rfl g42 ?_;exact kE hK hs),
     (fun a u hb hs hl hd K hK=>by have s49:=gD hd 35;have g42:=vD hd 28;clear hd;refine step_un rfl (j:=28) (d:=42) rfl rfl g42 ?_;exact kE hK hs),
     (fun a u hb hs hl hd K hK=>by have s48:=gD hd 34;have s50:=gD hd 36;have g42:=vD hd 28;clear hd;refine step_un rfl (j:=28) (d:=42) rfl rfl g42 ?_;exact kE hK hs),
     (fun a u hb hs hl hd K hK=>by have s51:=gD hd 37;have g42:=vD hd 28;clear hd;refine step_un rfl (j:=28) (d:=42) rfl rfl g42 ?_;exact kE hK hs),
     (fun a u hb hs hl hd K hK=>by have s52:=gD hd 38;have g42:=vD hd 28;clear hd;refine step_un rfl (j:=28) (d:=42) rfl rfl g42 ?_;exact kE hK hs),
     (fun a u hb hs hl hd K hK=>by have s47:=gD hd 33;have s53:=gD hd 39;have g42:=vD hd 28;clear hd;refine step_un rfl (j:=28) (d:=42) rfl rfl g42 ?_;exact kE hK hs),
     (fun a u hb hs hl hd K hK=>by have s42:=gD hd 28;have s54:=gD hd 40;have g29:=vD hd 15;clear hd;refine step_un rfl (j:=15) (d:=29) rfl rfl g29 ?_;exact kE hK hs),
     sN,
     trivial⟩ ?_
   clear hs hd s3 s5 s9 s10;intro a w hb hs hd zl hh;replace zl:=lH hh 2 zl;replace zl:=lH hh 42 zl;clear hh;replace hsb:=hsb.after hb;replace hB:=bz_then hB hb;clear hb;refine wn 1 ?_;clear hs hd zl;intro a hs hd zl;refine wp_cond_false (vL zl 0) ?_;refine wp_exit ?_;repeat refine then_exit ?_
   refine inBlock_exit ?_;have ew:IntKind.i64.wrap ((i:Int)+1)=((i+1:Nat):Int):=by rw[IntWalk.i64_in _ (by omega)];omega
   refine wn 1 ?_;clear hs hd zl;intro a hs hd zl;refine tail_op rfl (fun K hK=>?_);have q76:=gL zl 0;go_simp;clear q76;refine hK _ _ ?_;clear hK K;obtain⟨s76,s57,-,-,s3,s5,s9,s10,-⟩:=zl;refine act_put (d:=10) _ hs hd (by decide) [(3,_),(5,_),(9,_),(57,_),(76,_)] ⟨s3,s5,s9,s57,s76,trivial⟩ rfl ?_;clear hs hd s3 s5 s9 s10 s57 s76;intro a hs hd zl;obtain⟨s10,s3,-,s9,-,-,-⟩:=zl;refine⟨⟨i+1,S',hs,hd,⟨s3,s9,s10,trivial⟩,hlt,hB,hp,hsb,HSZ.out⟩,?_⟩;rw[s10];simp[intOf];omega
  obtain⟨m,hkm⟩:∃m,k=m+1:=⟨k-1,by omega⟩;have HKM:=Is.hid hkm;have hkp:0<k:=by omega
  clear hkm hk0;obtain⟨sk,hsk⟩:∃s,S'[k]?=some s:=⟨S'[k]'(by omega),List.getElem?_eq_getElem (by omega)⟩;obtain⟨sm,hsm⟩:∃s,S'[m]?=some s:=⟨S'[m]'(by have:=HKM.out;omega),List.getElem?_eq_getElem (by have:=HKM.out;omega)⟩;have hSk:=Is.hid hsk;have hSm:=Is.hid hsm;have ck0:w.cell? ⟨g,k*4,none⟩=some (.string sk.a):=hsb.cell hsk (j:=0) rfl;have ck2:w.cell? ⟨g,k*4+2,none⟩=some (.int .i64 sk.p):=hsb.cell hsk (j:=2) rfl;have cm0:w.cell? ⟨g,m*4,none⟩=some (.string sm.a):=hsb.cell hsm (j:=0) rfl;have cm2:w.cell? ⟨g,m*4+2,none⟩=some (.int .i64 sm.p):=hsb.cell hsm (j:=2) rfl;clear hsk hsm;by_cases h1:sm.p<sk.p
  ·have e1:decide (sm.p<sk.p)=true:=decide_eq_true h1;refine wp_seq ?_;refine wp_seq ?_;have e0:decide (0<k)=true:=decide_eq_true hkp;have e0':decide ((0:Int)<(k:Int))=true:=decide_eq_true (by omega);have hkn:k<n:=by omega
   have hmn:m<n:=by have:=HKM.out;omega
   have hk1:(1:Int)≤(k:Int):=by omega
   have ek:IntKind.i64.wrap ((k:Int)-1)=(m:Int):=by rw[IntWalk.i64_in _ (by have:=HKM.out;omega)];have:=HKM.out;omega
   refine fl2 (F:=[(3,_),(5,_),(9,_),(10,_)]) [FItem.eq 14 _,FItem.eq 15 (.bool true),FItem.eq 16 (.bool true),FItem.eq 17 _,FItem.eq 18 _,FItem.eq 19 _,FItem.eq 20 _,FItem.eq 21 _,FItem.eq 22 _,FItem.eq 23 _,FItem.eq 24 _,FItem.eq 25 _,FItem.eq 26 _,FItem.eq 27 _,FItem.eq 28 (.bool true),FItem.eq 29 (.bool true),FItem.eq 30 _,FItem.eq 31 _,FItem.eq 32 _,FItem.eq 33 _,FItem.eq 34 _,FItem.eq 35 _,FItem.eq 36 _,FItem.eq 37 _,FItem.eq 38 _,FItem.eq 39 _,FItem.eq 40 _,FItem.eq 41 _,FItem.eq 42 (undef),FItem.eq 43 _,FItem.eq 44 _,FItem.eq 45 _,FItem.eq 46 _,FItem.eq 47 _,FItem.eq 48 _,FItem.eq 49 _,FItem.eq 50 _,FItem.eq 51 _,FItem.eq 52 _,FItem.eq 53 _,FItem.eq 54 _,FItem.eq 55 _,FItem.eq 56 _] 43 hs hd ⟨s3,s5,s9,s10,trivial⟩
    ⟨sP bq,
     sP bq,
     sP bq,
     sY bq,
     sY bq,
     sY bq,
     sY bq,
     sY bq,
     sY bq,
     sY bq,
     sY bq,
     sY bq,
     sY bq,
     sY bq,
     sY bq,
     sY bq,
     sN,
     sN,
     sN,
     sN,
     sN,
     sN,
     sN,
     sN,
     sN,
     sN,
     sN,
     sN,
     sN,
     (fun a u hb hs hl hd K hK=>by have s3:=gL hl 0;have g42:=vD hd 28;clear hd;refine step_un rfl (j:=28) (d:=42) rfl rfl g42 ?_;exact kE hK hs),
     (fun a u hb hs hl hd K hK=>by have s5:=gL hl 1;have g42:=vD hd 28;clear hd;refine step_un rfl (j:=28) (d:=42) rfl rfl g42 ?_;exact kE hK hs),
     (fun a u hb hs hl hd K hK=>by have s43:=gD hd 29;have s44:=gD hd 30;have g42:=vD hd 28;clear hd;refine step_un rfl (j:=28) (d:=42) rfl rfl g42 ?_;exact kE hK hs),
     (fun a u hb hs hl hd K hK=>by have s45:=gD hd 31;have g42:=vD hd 28;clear hd;refine step_un rfl (j:=28) (d:=42) rfl rfl g42 ?_;exact kE hK hs),
     (fun a u hb hs hl hd K hK=>by have s46:=gD hd 32;have ck0:=cell_up hb ck0;have ck2:=cell_up hb ck2;have cm0:=cell_up hb cm0;have cm2:=cell_up hb cm2;have g42:=vD hd 28;clear hd;refine step_un rfl (j:=28) (d:=42) rfl rfl g42 ?_;exact kE hK hs),
     (fun a u hb hs hl hd K hK=>by have s3:=gL hl 0;have g42:=vD hd 28;clear hd;refine step_un rfl (j:=28) (d:=42) rfl rfl g42 ?_;exact kE hK hs),
     (fun a u hb hs hl hd K hK=>by have s5:=gL hl 1;have g42:=vD hd 28;clear hd;refine step_un rfl (j:=28) (d:=42) rfl rfl g42 ?_;exact kE hK hs),
     (fun a u hb hs hl hd K hK=>by have s49:=gD hd 35;have g42:=vD hd 28;clear hd;refine step_un rfl (j:=28) (d:=42) rfl rfl g42 ?_;exact kE hK hs),
     (fun a u hb hs hl hd K hK=>by have s48:=gD hd 34;have s50:=gD hd 36;have g42:=vD hd 28;clear hd;refine step_un rfl (j:=28) (d:=42) rfl rfl g42 ?_;exact kE hK hs),
     (fun a u hb hs hl hd K hK=>by have s51:=gD hd 37;have g42:=vD hd 28;clear hd;refine step_un rfl (j:=28) (d:=42) rfl rfl g42 ?_;exact kE hK hs),
     (fun a u hb hs hl hd K hK=>by have s52:=gD hd 38;have ck0:=cell_up hb ck0;have ck2:=cell_up hb ck2;have cm0:=cell_up hb cm0;have cm2:=cell_up hb cm2;have g42:=vD hd 28;clear hd;refine step_un rfl (j:=28) (d:=42) rfl rfl g42 ?_;exact kE hK hs),
     (fun a u hb hs hl hd K hK=>by have s47:=gD hd 33;have s53:=gD hd 39;have g42:=vD hd 28;clear hd;refine step_un rfl (j:=28) (d:=42) rfl rfl g42 ?_;exact kE hK hs),
     sN,
     sY bq,
     trivial⟩ ?_
   clear hs hd s3 s5 s9 s10;intro a w hb hs hd zl hh;replace zl:=lH hh 2 zl;replace zl:=lH hh 42 zl;clear hh;replace hsb:=hsb.after hb;replace ck0:=cell_up hb ck0;replace ck2:=cell_up hb ck2;replace cm0:=cell_up hb cm0;replace cm2:=cell_up hb cm2;replace hB:=bz_then hB hb;clear hb;refine wn 1 ?_;clear hs hd zl;intro a hs hd zl;clear e0 e0' ek ck0 ck2 cm0 cm2 hkn hmn hk1;refine wp_cond_true (vL zl 0) ?_;refine wp_skip ?_;refine wp_seq ?_;refine wp_block ?_;have hkn:k<n:=by omega
   have hmn:m<n:=by have:=HKM.out;omega
   have hk_:k<S'.length:=by omega
   have hm_:m<S'.length:=by omega
   have ek:IntKind.i64.wrap ((k:Int)-1)=(m:Int):=by rw[IntWalk.i64_in _ (by have:=HKM.out;omega)];have:=HKM.out;omega
   obtain⟨s57,-,-,s3,s5,s9,s10,-⟩:=zl;refine wp_flow4_use [(3,_),(5,_),(9,_),(10,_),(57,_)]
    [some (60,_),some (61,_),some (62,_),some (63,_),some (64,_),some (65,_),some (66,_),some (67,_),some (68,_),some (69,.agg sm.cells.toArray),some (70,_),some (71,_),some (72,_),some (73,.agg sk.cells.toArray),some (74,_),none,some (75,_),none]
    [15,17] [(none,some 0),(none,some 0),(none,some 1),(none,some 1),(none,some 1),(none,some 0),(none,some 0),(none,some 0),(none,some 0),(none,some 0),(none,some 1),(none,some 1),(none,some 1),(none,some 0),(none,some 0),(some 0,some 1),(none,some 1),(some 1,none)]
    (fun c w=>Below w0.heap.size w0 w∧SB w g (swp S' k m sk sm c) rest)
    78 (by kernel_rfl) (by kernel_rfl) (by kernel_rfl) (by kernel_rfl) (by kernel_rfl) hs hd ⟨s3,s5,s9,s10,s57,trivial⟩ ⟨hB.drew,hsb⟩
    ⟨(fun a u c hT hr hbd hs hl hd K hK=>by
      obtain⟨l3,-,-,-,-,-⟩:=hl;have s3:=gd l3;clear hd;have hcb:=hbd 0 rfl;refine step_plain rfl ?_;go_simp;exact hK _ _ (s_put hs (by decide)) hT),
     (fun a u c hT hr hbd hs hl hd K hK=>by
      obtain⟨-,l5,-,-,-,-⟩:=hl;have s5:=gd l5;clear hd;have hcb:=hbd 0 rfl;refine step_plain rfl ?_;go_simp;exact hK _ _ (s_put hs (by decide)) hT),
     (fun a u c hT hr hbd hs hl hd K hK=>by
      obtain⟨l3,-,-,-,-,-⟩:=hl;have s3:=gd l3;clear hd;have hcb:=hbd 1 rfl;refine step_plain rfl ?_;go_simp;exact hK _ _ (s_put hs (by decide)) hT),
     (fun a u c hT hr hbd hs hl hd K hK=>by
      obtain⟨-,l5,-,-,-,-⟩:=hl;have s5:=gd l5;clear hd;have hcb:=hbd 1 rfl;refine step_plain rfl ?_;go_simp;exact hK _ _ (s_put hs (by decide)) hT),
     (fun a u c hT hr hbd hs hl hd K hK=>by
      have s63:=gd (sdep_get hd 3 (by kernel_rfl) rfl);clear hd;have hcb:=hbd 1 rfl;refine step_plain rfl ?_;go_simp;exact hK _ _ (s_put hs (by decide)) hT),
     (fun a u c hT hr hbd hs hl hd K hK=>by
      obtain⟨l3,-,-,-,-,-⟩:=hl;have s3:=gd l3;clear hd;have hcb:=hbd 0 rfl;refine step_plain rfl ?_;go_simp;exact hK _ _ (s_put hs (by decide)) hT),
     (fun a u c hT hr hbd hs hl hd K hK=>by
      obtain⟨-,l5,-,-,-,-⟩:=hl;have s5:=gd l5;clear hd;have hcb:=hbd 0 rfl;refine step_plain rfl ?_;go_simp;exact hK _ _ (s_put hs (by decide)) hT),
     (fun a u c hT hr hbd hs hl hd K hK=>by
      have s66:=gd (sdep_get hd 6 (by kernel_rfl) rfl);clear hd;have hcb:=hbd 0 rfl;refine step_plain rfl ?_;go_simp;exact hK _ _ (s_put hs (by decide)) hT),
     (fun a u c hT hr hbd hs hl hd K hK=>by
      have s65:=gd (sdep_get hd 5 (by kernel_rfl) rfl);have s67:=gd (sdep_get hd 7 (by kernel_rfl) rfl);clear hd;have hcb:=hbd 0 rfl;refine step_plain rfl ?_;go_simp;exact hK _ _ (s_put hs (by decide)) hT),
     (fun a u c hT hr hbd hs hl hd K hK=>by
      have s68:=gd (sdep_get hd 8 (by kernel_rfl) rfl);clear hd;have hcb:=hbd 0 rfl;refine step_plain rfl ?_;obtain rfl:c=0:=by omega
      refine op_load_cells 48 (.tmp 68) rfl g (m*4) (gu s68) sm.cells _ (fun j v h=>SB.cell hT.2 hSm.out h) rfl rfl (by kernel_rfl) ?_;exact hK _ _ (s_put hs (by decide)) hT),
     (fun a u c hT hr hbd hs hl hd K hK=>by
      obtain⟨l3,-,-,-,-,-⟩:=hl;have s3:=gd l3;clear hd;have hcb:=hbd 1 rfl;refine step_plain rfl ?_;go_simp;exact hK _ _ (s_put hs (by decide)) hT),
     (fun a u c hT hr hbd hs hl hd K hK=>by
      obtain⟨-,l5,-,-,-,-⟩:=hl;have s5:=gd l5;clear hd;have hcb:=hbd 1 rfl;refine step_plain rfl ?_;go_simp;exact hK _ _ (s_put hs (by decide)) hT),
     (fun a u c hT hr hbd hs hl hd K hK=>by
      have s70:=gd (sdep_get hd 10 (by kernel_rfl) rfl);have s71:=gd (sdep_get hd 11 (by kernel_rfl) rfl);clear hd;have hcb:=hbd 1 rfl;refine step_plain rfl ?_;go_simp;exact hK _ _ (s_put hs (by decide)) hT),
     (fun a u c hT hr hbd hs hl hd K hK=>by
      have s72:=gd (sdep_get hd 12 (by kernel_rfl) rfl);clear hd;have hcb:=hbd 0 rfl;refine step_plain rfl ?_;obtain rfl:c=0:=by omega
      refine op_load_cells 48 (.tmp 72) rfl g (k*4) (gu s72) sk.cells _ (fun j v h=>SB.cell hT.2 hSk.out h) rfl rfl (by kernel_rfl) ?_;exact hK _ _ (s_put hs (by decide)) hT),
     (fun a u c hT hr hbd hs hl hd K hK=>by
      have s60:=gd (sdep_get hd 0 (by kernel_rfl) rfl);have s61:=gd (sdep_get hd 1 (by kernel_rfl) rfl);clear hd;have hcb:=hbd 0 rfl;refine step_plain rfl ?_;go_simp;exact hK _ _ (s_put hs (by decide)) hT),
     (fun a u c hT hr hbd hs hl hd K hK=>by
      have s69:=gd (sdep_get hd 9 (by kernel_rfl) rfl);have s74:=gd (sdep_get hd 14 (by kernel_rfl) rfl);clear hd;obtain rfl:=hr 0 rfl;refine step_plain rfl ?_;refine op_store_part 48 (.tmp 74) (.tmp 69) rfl g (k*4) (gu s74) sm.cells.toArray (gu s69) 48 _ hT.2 (SBl_room (S') rest k (by simpa using hk_)) (by kernel_rfl) (seat_one _) ?_;rw[SBl_set _ _ _ _ (by simpa [swp]using hk_)];exact hK undef _ trivial ⟨below_setRow hT.1 hg0 _,Blk.setRow hT.2 _⟩),
     (fun a u c hT hr hbd hs hl hd K hK=>by
      have s62:=gd (sdep_get hd 2 (by kernel_rfl) rfl);have s64:=gd (sdep_get hd 4 (by kernel_rfl) rfl);clear hd;have hcb:=hbd 1 rfl;refine step_plain rfl ?_;go_simp;exact hK _ _ (s_put hs (by decide)) hT),
     (fun a u c hT hr hbd hs hl hd K hK=>by
      have s73:=gd (sdep_get hd 13 (by kernel_rfl) rfl);have s75:=gd (sdep_get hd 16 (by kernel_rfl) rfl);clear hd;obtain rfl:=hr 1 rfl;refine step_plain rfl ?_;refine op_store_part 48 (.tmp 75) (.tmp 73) rfl g (m*4) (gu s75) sk.cells.toArray (gu s73) 48 _ hT.2 (SBl_room (S'.set k sm) rest m (by simpa using hm_)) (by kernel_rfl) (seat_one _) ?_;rw[SBl_set _ _ _ _ (by simpa [swp]using hm_)];exact hK undef _ trivial ⟨below_setRow hT.1 hg0 _,Blk.setRow hT.2 _⟩),
     trivial⟩ ?_
   clear hs hd s3 s5 s9 s10 s57;intro a w hT hs hd hl hh;obtain⟨s3,s5,s9,s10,-,-⟩:=hl;clear hh;clear hB hsb;obtain⟨hB,hsb⟩:=hT;replace hsb:SB w g ((S'.set k sm).set m sk) rest:=hsb;refine wp_region_list ?_;show wpList _ _ _ [_,_,_] _ _
   refine tail_op rfl (fun K hK=>?_);have q5:=gd s5;go_simp;clear q5;refine hK _ _ ?_;clear hK K;refine act_put (d:=58) _ hs hd (by decide) [(3,_),(5,_),(9,_),(10,_)] ⟨s3,s5,s9,s10,trivial⟩ rfl ?_;clear hs hd s3 s5 s9 s10;intro a hs hd zl;refine wn 1 ?_;clear hs hd zl;intro a hs hd zl;refine tail_op rfl (fun K hK=>?_);have q59:=gL zl 0;go_simp;clear q59;refine hK _ _ ?_;clear hK K;obtain⟨s59,s58,s3,s5,s9,s10,-⟩:=zl;refine act_put (d:=5) _ hs hd (by decide) [(3,_),(9,_),(10,_),(58,_),(59,_)] ⟨s3,s9,s10,s58,s59,trivial⟩ rfl ?_;clear hs hd s3 s5 s9 s10 s58 s59;intro a hs hd zl;have hpm:List.Perm ((S'.set k sm).set m sk) S':=by
    have:=@List.set_set_perm _ S' k m hk_ hm_;rw[(List.getElem?_eq_some_iff.1 hSk.out).2,(List.getElem?_eq_some_iff.1 hSm.out).2]at this;exact this
   obtain⟨s5,s3,s9,s10,-,-,-⟩:=zl;refine⟨⟨m,(S'.set k sm).set m sk,hs,hd,⟨s3,s9,s10,s5,trivial⟩,(by have:=HKM.out;omega),hB,hpm.trans hp,hsb,(by rw[SBl_size_set,SBl_size_set];exact HSZ.out)⟩,?_⟩;rw[s5];simp[intOf];have:=HKM.out;omega
  have e1:decide (sm.p<sk.p)=false:=decide_eq_false h1;by_cases h2:sk.p=sm.p
  ·have e2:(sk.p == sm.p)=true:=by rw[beq_iff_eq];exact h2
   clear h2;refine wp_seq ?_;refine wp_seq ?_;have e0:decide (0<k)=true:=decide_eq_true hkp;have e0':decide ((0:Int)<(k:Int))=true:=decide_eq_true (by omega);have hkn:k<n:=by omega
   have hmn:m<n:=by have:=HKM.out;omega
   have hk1:(1:Int)≤(k:Int):=by omega
   have ek:IntKind.i64.wrap ((k:Int)-1)=(m:Int):=by rw[IntWalk.i64_in _ (by have:=HKM.out;omega)];have:=HKM.out;omega
   refine fl2 (F:=[(3,_),(5,_),(9,_),(10,_)]) [FItem.eq 14 _,FItem.eq 15 (.bool true),FItem.eq 16 (.bool true),FItem.eq 17 _,FItem.eq 18 _,FItem.eq 19 _,FItem.eq 20 _,FItem.eq 21 _,FItem.eq 22 _,FItem.eq 23 _,FItem.eq 24 _,FItem.eq 25 _,FItem.eq 26 _,FItem.eq 27 _,FItem.eq 28 (.bool false),FItem.eq 29 (.bool false),FItem.eq 30 _,FItem.eq 31 _,FItem.eq 32 _,FItem.eq 33 _,FItem.eq 34 _,FItem.eq 35 _,FItem.eq 36 _,FItem.eq 37 _,FItem.eq 38 _,FItem.eq 39 _,FItem.eq 40 _,FItem.eq 41 (.bool true),FItem.eq 42 (.bool true),FItem.eq 43 _,FItem.eq 44 _,FItem.eq 45 _,FItem.eq 46 _,FItem.eq 47 _,FItem.eq 48 _,FItem.eq 49 _,FItem.eq 50 _,FItem.eq 51 _,FItem.eq 52 _,FItem.eq 53 _,FItem.eq 54 _,FItem.eq 55 _,FItem.eq 56 _] 43 hs hd ⟨s3,s5,s9,s10,trivial⟩
    ⟨sP bq,
     sP bq,
     sP bq,
     sY bq,
     sY bq,
     sY bq,
     sY bq,
     sY bq,
     sY bq,
     sY bq,
     sY bq,
     sY bq,
     sY bq,
     sY bq,
     sY bq,
     sY bq,
     sY bq,
     sY bq,
     sY bq,
     sY bq,
     sY bq,
     sY bq,
     sY bq,
     sY bq,
     sY bq,
     sY bq,
     sY bq,
     sY bq,
     sY bq,
     sY bq,
     sY bq,
     sY bq,
     sY bq,
     sY bq,
     sY bq,
     sY bq,
     sY bq,
     sY bq,
     sY bq,
     sY bq,
     sY bq,
     sY bq,
     sY bq,
     trivial⟩ ?_
   clear hs hd s3 s5 s9 s10;intro a w hb hs hd zl hh;replace zl:=lH hh 2 zl;replace zl:=lH hh 42 zl;clear hh;replace hsb:=hsb.after hb;replace ck0:=cell_up hb ck0;replace ck2:=cell_up hb ck2;replace cm0:=cell_up hb cm0;replace cm2:=cell_up hb cm2;replace hB:=bz_then hB hb;clear hb;refine wn 1 ?_;clear hs hd zl;intro a hs hd zl;clear e0 e0' ek ck0 ck2 cm0 cm2 hkn hmn hk1;have s57:=vL zl 0;obtain⟨bb,hbb⟩:∃b,a.tmps.getD 57 undef=.bool b:=⟨_,s57⟩;clear s57;obtain⟨-,-,-,s3,s5,s9,s10,-⟩:=zl;have s57:=hbb;clear hbb
   cases bb
   ·refine wp_cond_false s57 ?_;refine wp_exit ?_;repeat refine then_exit ?_
    refine inBlock_exit ?_;have ew:IntKind.i64.wrap ((i:Int)+1)=((i+1:Nat):Int):=by rw[IntWalk.i64_in _ (by omega)];omega
    refine wp_region_list ?_;show wpList _ _ _ [_,_] _ _
    refine tail_op rfl (fun K hK=>?_);have q10:=gd s10;go_simp;clear q10;refine hK _ _ ?_;clear hK K;refine act_put (d:=76) _ hs hd (by decide) [(3,_),(5,_),(9,_),(10,_),(57,_)] ⟨s3,s5,s9,s10,s57,trivial⟩ rfl ?_;clear hs hd s3 s5 s9 s10 s57;intro a hs hd zl;refine tail_op rfl (fun K hK=>?_);have q76:=gL zl 0;go_simp;clear q76;refine hK _ _ ?_;clear hK K;obtain⟨s76,s3,s5,s9,s10,s57,-⟩:=zl;refine act_put (d:=10) _ hs hd (by decide) [(3,_),(5,_),(9,_),(57,_),(76,_)] ⟨s3,s5,s9,s57,s76,trivial⟩ rfl ?_;clear hs hd s3 s5 s9 s10 s57 s76;intro a hs hd zl;obtain⟨s10,s3,-,s9,-,-,-⟩:=zl;refine⟨⟨i+1,S',hs,hd,⟨s3,s9,s10,trivial⟩,hlt,hB,hp,hsb,HSZ.out⟩,?_⟩;rw[s10];simp[intOf];omega
   refine wp_cond_true s57 ?_;refine wp_skip ?_;refine wp_seq ?_;refine wp_block ?_;have hkn:k<n:=by omega
   have hmn:m<n:=by have:=HKM.out;omega
   have hk_:k<S'.length:=by omega
   have hm_:m<S'.length:=by omega
   have ek:IntKind.i64.wrap ((k:Int)-1)=(m:Int):=by rw[IntWalk.i64_in _ (by have:=HKM.out;omega)];have:=HKM.out;omega
   refine wp_flow4_use [(3,_),(5,_),(9,_),(10,_),(57,_)]
    [some (60,_),some (61,_),some (62,_),some (63,_),some (64,_),some (65,_),some (66,_),some (67,_),some (68,_),some (69,.agg sm.cells.toArray),some (70,_),some (71,_),some (72,_),some (73,.agg sk.cells.toArray),some (74,_),none,some (75,_),none]
    [15,17] [(none,some 0),(none,some 0),(none,some 1),(none,some 1),(none,some 1),(none,some 0),(none,some 0),(none,some 0),(none,some 0),(none,some 0),(none,some 1),(none,some 1),(none,some 1),(none,some 0),(none,some 0),(some 0,some 1),(none,some 1),(some 1,none)]
    (fun c w=>Below w0.heap.size w0 w∧SB w g (swp S' k m sk sm c) rest)
    78 (by kernel_rfl) (by kernel_rfl) (by kernel_rfl) (by kernel_rfl) (by kernel_rfl) hs hd ⟨s3,s5,s9,s10,s57,trivial⟩ ⟨hB.drew,hsb⟩
    ⟨(fun a u c hT hr hbd hs hl hd K hK=>by
      obtain⟨l3,-,-,-,-,-⟩:=hl;have s3:=gd l3;clear hd;have hcb:=hbd 0 rfl;refine step_plain rfl ?_;go_simp;exact hK _ _ (s_put hs (by decide)) hT),
     (fun a u c hT hr hbd hs hl hd K hK=>by
      obtain⟨-,l5,-,-,-,-⟩:=hl;have s5:=gd l5;clear hd;have hcb:=hbd 0 rfl;refine step_plain rfl ?_;go_simp;exact hK _ _ (s_put hs (by decide)) hT),
     (fun a u c hT hr hbd hs hl hd K hK=>by
      obtain⟨l3,-,-,-,-,-⟩:=hl;have s3:=gd l3;clear hd;have hcb:=hbd 1 rfl;refine step_plain rfl ?_;go_simp;exact hK _ _ (s_put hs (by decide)) hT),
     (fun a u c hT hr hbd hs hl hd K hK=>by
      obtain⟨-,l5,-,-,-,-⟩:=hl;have s5:=gd l5;clear hd;have hcb:=hbd 1 rfl;refine step_plain rfl ?_;go_simp;exact hK _ _ (s_put hs (by decide)) hT),
     (fun a u c hT hr hbd hs hl hd K hK=>by
      have s63:=gd (sdep_get hd 3 (by kernel_rfl) rfl);clear hd;have hcb:=hbd 1 rfl;refine step_plain rfl ?_;go_simp;exact hK _ _ (s_put hs (by decide)) hT),
     (fun a u c hT hr hbd hs hl hd K hK=>by
      obtain⟨l3,-,-,-,-,-⟩:=hl;have s3:=gd l3;clear hd;have hcb:=hbd 0 rfl;refine step_plain rfl ?_;go_simp;exact hK _ _ (s_put hs (by decide)) hT),
     (fun a u c hT hr hbd hs hl hd K hK=>by
      obtain⟨-,l5,-,-,-,-⟩:=hl;have s5:=gd l5;clear hd;have hcb:=hbd 0 rfl;refine step_plain rfl ?_;go_simp;exact hK _ _ (s_put hs (by decide)) hT),
     (fun a u c hT hr hbd hs hl hd K hK=>by
      have s66:=gd (sdep_get hd 6 (by kernel_rfl) rfl);clear hd;have hcb:=hbd 0 rfl;refine step_plain rfl ?_;go_simp;exact hK _ _ (s_put hs (by decide)) hT),
     (fun a u c hT hr hbd hs hl hd K hK=>by
      have s65:=gd (sdep_get hd 5 (by kernel_rfl) rfl);have s67:=gd (sdep_get hd 7 (by kernel_rfl) rfl);clear hd;have hcb:=hbd 0 rfl;refine step_plain rfl ?_;go_simp;exact hK _ _ (s_put hs (by decide)) hT),
     (fun a u c hT hr hbd hs hl hd K hK=>by
      have s68:=gd (sdep_get hd 8 (by kernel_rfl) rfl);clear hd;have hcb:=hbd 0 rfl;refine step_plain rfl ?_;obtain rfl:c=0:=by omega
      refine op_load_cells 48 (.tmp 68) rfl g (m*4) (gu s68) sm.cells _ (fun j v h=>SB.cell hT.2 hSm.out h) rfl rfl (by kernel_rfl) ?_;exact hK _ _ (s_put hs (by decide)) hT),
     (fun a u c hT hr hbd hs hl hd K hK=>by
      obtain⟨l3,-,-,-,-,-⟩:=hl;have s3:=gd l3;clear hd;have hcb:=hbd 1 rfl;refine step_plain rfl ?_;go_simp;exact hK _ _ (s_put hs (by decide)) hT),
     (fun a u c hT hr hbd hs hl hd K hK=>by
      obtain⟨-,l5,-,-,-,-⟩:=hl;have s5:=gd l5;clear hd;have hcb:=hbd 1 rfl;refine step_plain rfl ?_;go_simp;exact hK _ _ (s_put hs (by decide)) hT),
     (fun a u c hT hr hbd hs hl hd K hK=>by
      have s70:=gd (sdep_get hd 10 (by kernel_rfl) rfl);have s71:=gd (sdep_get hd 11 (by kernel_rfl) rfl);clear hd;have hcb:=hbd 1 rfl;refine step_plain rfl ?_;go_simp;exact hK _ _ (s_put hs (by decide)) hT),
     (fun a u c hT hr hbd hs hl hd K hK=>by
      have s72:=gd (sdep_get hd 12 (by kernel_rfl) rfl);clear hd;have hcb:=hbd 0 rfl;refine step_plain rfl ?_;obtain rfl:c=0:=by omega
      refine op_load_cells 48 (.tmp 72) rfl g (k*4) (gu s72) sk.cells _ (fun j v h=>SB.cell hT.2 hSk.out h) rfl rfl (by kernel_rfl) ?_;exact hK _ _ (s_put hs (by decide)) hT),
     (fun a u c hT hr hbd hs hl hd K hK=>by
      have s60:=gd (sdep_get hd 0 (by kernel_rfl) rfl);have s61:=gd (sdep_get hd 1 (by kernel_rfl) rfl);clear hd;have hcb:=hbd 0 rfl;refine step_plain rfl ?_;go_simp;exact hK _ _ (s_put hs (by decide)) hT),
     (fun a u c hT hr hbd hs hl hd K hK=>by
      have s69:=gd (sdep_get hd 9 (by kernel_rfl) rfl);have s74:=gd (sdep_get hd 14 (by kernel_rfl) rfl);clear hd;obtain rfl:=hr 0 rfl;refine step_plain rfl ?_;refine op_store_part 48 (.tmp 74) (.tmp 69) rfl g (k*4) (gu s74) sm.cells.toArray (gu s69) 48 _ hT.2 (SBl_room (S') rest k (by simpa using hk_)) (by kernel_rfl) (seat_one _) ?_;rw[SBl_set _ _ _ _ (by simpa [swp]using hk_)];exact hK undef _ trivial ⟨below_setRow hT.1 hg0 _,Blk.setRow hT.2 _⟩),
     (fun a u c hT hr hbd hs hl hd K hK=>by
      have s62:=gd (sdep_get hd 2 (by kernel_rfl) rfl);have s64:=gd (sdep_get hd 4 (by kernel_rfl) rfl);clear hd;have hcb:=hbd 1 rfl;refine step_plain rfl ?_;go_simp;exact hK _ _ (s_put hs (by decide)) hT),
     (fun a u c hT hr hbd hs hl hd K hK=>by
      have s73:=gd (sdep_get hd 13 (by kernel_rfl) rfl);have s75:=gd (sdep_get hd 16 (by kernel_rfl) rfl);clear hd;obtain rfl:=hr 1 rfl;refine step_plain rfl ?_;refine op_store_part 48 (.tmp 75) (.tmp 73) rfl g (m*4) (gu s75) sk.cells.toArray (gu s73) 48 _ hT.2 (SBl_room (S'.set k sm) rest m (by simpa using hm_)) (by kernel_rfl) (seat_one _) ?_;rw[SBl_set _ _ _ _ (by simpa [swp]using hm_)];exact hK undef _ trivial ⟨below_setRow hT.1 hg0 _,Blk.setRow hT.2 _⟩),
     trivial⟩ ?_
   clear hs hd s3 s5 s9 s10 s57;intro a w hT hs hd hl hh;obtain⟨s3,s5,s9,s10,-,-⟩:=hl;clear hh;clear hB hsb;obtain⟨hB,hsb⟩:=hT;replace hsb:SB w g ((S'.set k sm).set m sk) rest:=hsb;refine wp_region_list ?_;show wpList _ _ _ [_,_,_] _ _
   refine tail_op rfl (fun K hK=>?_);have q5:=gd s5;go_simp;clear q5;refine hK _ _ ?_;clear hK K;refine act_put (d:=58) _ hs hd (by decide) [(3,_),(5,_),(9,_),(10,_)] ⟨s3,s5,s9,s10,trivial⟩ rfl ?_;clear hs hd s3 s5 s9 s10;intro a hs hd zl;refine wn 1 ?_;clear hs hd zl;intro a hs hd zl;refine tail_op rfl (fun K hK=>?_);have q59:=gL zl 0;go_simp;clear q59;refine hK _ _ ?_;clear hK K;obtain⟨s59,s58,s3,s5,s9,s10,-⟩:=zl;refine act_put (d:=5) _ hs hd (by decide) [(3,_),(9,_),(10,_),(58,_),(59,_)] ⟨s3,s9,s10,s58,s59,trivial⟩ rfl ?_;clear hs hd s3 s5 s9 s10 s58 s59;intro a hs hd zl;have hpm:List.Perm ((S'.set k sm).set m sk) S':=by
    have:=@List.set_set_perm _ S' k m hk_ hm_;rw[(List.getElem?_eq_some_iff.1 hSk.out).2,(List.getElem?_eq_some_iff.1 hSm.out).2]at this;exact this
   obtain⟨s5,s3,s9,s10,-,-,-⟩:=zl;refine⟨⟨m,(S'.set k sm).set m sk,hs,hd,⟨s3,s9,s10,s5,trivial⟩,(by have:=HKM.out;omega),hB,hpm.trans hp,hsb,(by rw[SBl_size_set,SBl_size_set];exact HSZ.out)⟩,?_⟩;rw[s5];simp[intOf];have:=HKM.out;omega
  have e2:(sk.p == sm.p)=false:=by rw[beq_eq_false_iff_ne];exact h2
  clear h2;refine wp_seq ?_;refine wp_seq ?_;have e0:decide (0<k)=true:=decide_eq_true hkp;have e0':decide ((0:Int)<(k:Int))=true:=decide_eq_true (by omega);have hkn:k<n:=by omega
  have hmn:m<n:=by have:=HKM.out;omega
  have hk1:(1:Int)≤(k:Int):=by omega
  have ek:IntKind.i64.wrap ((k:Int)-1)=(m:Int):=by rw[IntWalk.i64_in _ (by have:=HKM.out;omega)];have:=HKM.out;omega
  refine fl2 (F:=[(3,_),(5,_),(9,_),(10,_)]) [FItem.eq 14 _,FItem.eq 15 (.bool true),FItem.eq 16 (.bool true),FItem.eq 17 _,FItem.eq 18 _,FItem.eq 19 _,FItem.eq 20 _,FItem.eq 21 _,FItem.eq 22 _,FItem.eq 23 _,FItem.eq 24 _,FItem.eq 25 _,FItem.eq 26 _,FItem.eq 27 _,FItem.eq 28 (.bool false),FItem.eq 29 (.bool false),FItem.eq 30 _,FItem.eq 31 _,FItem.eq 32 _,FItem.eq 33 _,FItem.eq 34 _,FItem.eq 35 _,FItem.eq 36 _,FItem.eq 37 _,FItem.eq 38 _,FItem.eq 39 _,FItem.eq 40 _,FItem.eq 41 (.bool false),FItem.eq 42 (.bool false),FItem.eq 43 _,FItem.eq 44 _,FItem.eq 45 _,FItem.eq 46 _,FItem.eq 47 _,FItem.eq 48 _,FItem.eq 49 _,FItem.eq 50 _,FItem.eq 51 _,FItem.eq 52 _,FItem.eq 53 _,FItem.eq 54 _,FItem.eq 55 _,FItem.eq 56 _] 43 hs hd ⟨s3,s5,s9,s10,trivial⟩
   ⟨sP bq,
    sP bq,
    sP bq,
    sY bq,
    sY bq,
    sY bq,
    sY bq,
    sY bq,
    sY bq,
    sY bq,
    sY bq,
    sY bq,
    sY bq,
    sY bq,
    sY bq,
    sY bq,
    sY bq,
    sY bq,
    sY bq,
    sY bq,
    sY bq,
    sY bq,
    sY bq,
    sY bq,
    sY bq,
    sY bq,
    sY bq,
    sY bq,
    sY bq,
    sN,
    sN,
    sN,
    sN,
    sN,
    sN,
    sN,
    sN,
    sN,
    sN,
    sN,
    sN,
    sY bq,
    sY bq,
    trivial⟩ ?_
  clear hs hd s3 s5 s9 s10;intro a w hb hs hd zl hh;replace zl:=lH hh 2 zl;replace zl:=lH hh 42 zl;clear hh;replace hsb:=hsb.after hb;replace ck0:=cell_up hb ck0;replace ck2:=cell_up hb ck2;replace cm0:=cell_up hb cm0;replace cm2:=cell_up hb cm2;replace hB:=bz_then hB hb;clear hb;refine wn 1 ?_;clear hs hd zl;intro a hs hd zl;clear e0 e0' ek ck0 ck2 cm0 cm2 hkn hmn hk1;refine wp_cond_false (vL zl 0) ?_;refine wp_exit ?_;repeat refine then_exit ?_
  refine inBlock_exit ?_;have ew:IntKind.i64.wrap ((i:Int)+1)=((i+1:Nat):Int):=by rw[IntWalk.i64_in _ (by omega)];omega
  refine wn 1 ?_;clear hs hd zl;intro a hs hd zl;refine tail_op rfl (fun K hK=>?_);have q76:=gL zl 0;go_simp;clear q76;refine hK _ _ ?_;clear hK K;obtain⟨s76,s57,-,-,s3,s5,s9,s10,-⟩:=zl;refine act_put (d:=10) _ hs hd (by decide) [(3,_),(5,_),(9,_),(57,_),(76,_)] ⟨s3,s5,s9,s57,s76,trivial⟩ rfl ?_;clear hs hd s3 s5 s9 s10 s57 s76;intro a hs hd zl;obtain⟨s10,s3,-,s9,-,-,-⟩:=zl;refine⟨⟨i+1,S',hs,hd,⟨s3,s9,s10,trivial⟩,hlt,hB,hp,hsb,HSZ.out⟩,?_⟩;rw[s10];simp[intOf];omega
 obtain rfl:i=n:=by omega
 have e1:decide (i<i)=false:=decide_eq_false (by omega);refine wp_seq ?_;refine wp_region_list ?_;show wpList _ _ _ [_] _ _
 refine tail_op rfl (fun K hK=>?_);have q9:=gd s9;have q10:=gd s10;go_simp;clear q9 q10;refine hK _ _ ?_;clear hK K;refine act_put (d:=11) _ hs hd (by decide) [(3,_),(9,_),(10,_)] ⟨s3,s9,s10,trivial⟩ rfl ?_;clear hs hd s3 s9 s10;intro a hs hd zl;refine wp_seq ?_;refine wp_cond_false (vL zl 0) ?_;refine wp_exit ?_;repeat refine then_exit ?_
 refine inBlock_exit ?_;refine wn 2 ?_;clear hs hd zl;intro a hs hd zl;have hln:S'.length=i:=hp.length_eq.trans hn.out;refine wp_ret ?_;exact end_tmp rfl hd (vL zl 0) ⟨S',_,_,by rw[hln],hp,hsb.own hg0 hsz (by rw[hln,← hn.out];exact hlc) hcm,hB⟩
theorem c_IndexSet(S:List Seat)(A:Option Addr)(c:Nat)(s:Seat)(ad:ByteArray)(gs ga:Nat)(t:TypeId)(w:World)(hS:SeatsAt w A S)(hgs:Blk w gs 63 s.cells.toArray)(hga:Blk w ga t #[.string ad])(hlen:S.length≤1000):
  Calls Tryz.prog 19 #[.slice A S.length c,.func (.func 24) #[] #[.pointer (some ⟨gs,0,none⟩),.pointer (some ⟨ga,0,none⟩)]] w fun e w'=>e=.returned (.int .i64 (idxB (sameB s ad) S))∧Below w.heap.size w w':=by
 suffices h:∀w0,(SeatsAt w0 A S)→(Blk w0 gs 63 s.cells.toArray)→(Blk w0 ga t #[.string ad])→Below w0.heap.size w0 w→Calls Tryz.prog 19 #[.slice A S.length c,.func (.func 24) #[] #[.pointer (some ⟨gs,0,none⟩),.pointer (some ⟨ga,0,none⟩)]] w fun e w'=>e=.returned (.int .i64 (idxB (sameB s ad) S))∧Below w0.heap.size w0 w' from h w hS hgs hga (bz_refl w)
 clear hS hgs hga;intro w0 hS hgs hga hB;refine enter_abs Tryz.func19 rfl 19 rfl (by simp) ?_;intro a hs hd hargs;have s0:=hargs 0 _ rfl;have s1:=hargs 1 _ rfl;clear hargs;refine wp_seq ?_;refine wp_region_list ?_;show wpList _ _ _ [_] _ _
 refine tail_op rfl (fun K hK=>?_);go_simp;refine hK _ _ ?_;clear hK K;refine act_put (d:=4) _ hs hd (by decide) [(0,_),(1,_)] ⟨s0,s1,trivial⟩ rfl ?_;clear hs hd s0 s1;intro a hs hd zl;refine wn 3 ?_;clear hs hd zl;intro a hs hd zl;refine wp_block ?_;obtain⟨s8,s7,-,-,s0,s1,-⟩:=zl;refine wp_loop (fun a w=>∃(k:Nat),SzIs a 19∧DfNil a∧LiveAll [(0,.slice A S.length c),(1,.func (.func 24) #[] #[.pointer (some ⟨gs,0,none⟩),.pointer (some ⟨ga,0,none⟩)]),(7,.int .i64 ((S.length:Nat):Int)),(8,.int .i64 ((k:Nat):Int))] a∧(k≤S.length)∧(Below w0.heap.size w0 w)∧(∀i x,i<k→S[i]?=some x→(sameB s ad) x=false))
  (fun a _=>S.length-(intOf (a.tmps.getD 8 undef)).toNat) ⟨0,hs,hd,⟨s0,s1,s7,s8,trivial⟩,Nat.zero_le _,hB,(fun i x h=>absurd h (Nat.not_lt_zero i))⟩ ?_
 clear hs hd s0 s1 s7 s8;rintro a w ⟨k,hs,hd,⟨s0,s1,s7,s8,-⟩,hk,hB,hno⟩;have hm:(intOf (a.tmps.getD 8 undef)).toNat=k:=by rw[s8];simp[intOf]
 rw[hm];clear hm;have HNO:=Is.hid hno;clear hno;by_cases hlt:k<S.length
 ·have e1:decide (k<S.length)=true:=decide_eq_true hlt;have e2:decide ((k:Int)<(S.length:Int))=true:=decide_eq_true (by omega);have ew:IntKind.i64.wrap ((k:Int)+1)=((k+1:Nat):Int):=by rw[IntWalk.i64_in _ (by omega)];omega
  obtain⟨x,hxk⟩:∃x,S[k]?=some x:=⟨S[k],List.getElem?_eq_getElem hlt⟩;have HX:=Is.hid hxk;obtain⟨b0,o0,rfl,hb0,hcells⟩:=(hS.after hB).at_ (by omega);have hck:=hcells k x hxk;clear hcells hxk;refine wp_seq ?_;refine wp_region_list ?_;show wpList _ _ _ [_] _ _
  refine tail_op rfl (fun K hK=>?_);have q7:=gd s7;have q8:=gd s8;go_simp;clear q7 q8;refine hK _ _ ?_;clear hK K;refine act_put (d:=9) _ hs hd (by decide) [(0,_),(1,_),(7,_),(8,_)] ⟨s0,s1,s7,s8,trivial⟩ rfl ?_;clear hs hd s0 s1 s7 s8;intro a hs hd zl;refine wn 6 ?_;clear hs hd zl;intro a hs hd zl;refine tail_op rfl (fun K hK=>?_);have q14:=gL zl 0;have s14:=vL zl 0;refine op_load_cells 48 (.tmp 14) rfl b0 _ s14 x.cells _ hck rfl rfl (by kernel_rfl) ?_;clear q14;refine hK _ _ (tP hs hd zl ?_);clear hK K hs hd zl s14;intro a hs hd zl;clear hck;refine tail_op rfl (fun K hK=>?_);have q11:=gL zl 4;have q15:=gL zl 0;go_simp;refine(c_set1 x s ad gs ga t _ (hgs.after hB) (hga.after hB)).mono ?_;rintro e w3 ⟨rfl,hb2⟩;obtain⟨pb,hpb⟩:∃b,(sameB s ad) x=b:=⟨_,rfl⟩;rw[show(sameB s ad) x=pb from hpb];clear q11 q15;refine hK _ _ (tP hs hd zl ?_);clear hK K hs hd zl;intro a hs hd zl;replace hB:=bz_then hB hb2;clear hb2
  cases pb
  ·refine wn 1 ?_;clear hs hd zl;intro a hs hd zl;refine tail_op rfl (fun K hK=>?_);have q18:=gL zl 0;go_simp;clear q18;refine hK _ _ ?_;clear hK K;obtain⟨s18,s16,-,-,-,-,-,s5,-,-,s0,s1,s7,s8,-⟩:=zl;refine act_put (d:=8) _ hs hd (by decide) [(0,_),(1,_),(5,_),(7,_),(16,_),(18,_)] ⟨s0,s1,s5,s7,s16,s18,trivial⟩ rfl ?_;clear hs hd s0 s1 s5 s7 s8 s16 s18;intro a hs hd zl;obtain⟨s8,s0,s1,-,s7,-,-,-⟩:=zl;refine⟨⟨k+1,hs,hd,⟨s0,s1,s7,s8,trivial⟩,hlt,hB,(fun i y hi hy=>by
    rcases Nat.lt_or_ge i k with h|h
    ·exact HNO.out i y h hy
    ·obtain rfl:i=k:=by omega
     rw[HX.out]at hy;injection hy with hy;rw[← hy];exact hpb)⟩,?_⟩
   rw[s8];simp[intOf];omega
  refine wn 2 ?_;clear hs hd zl;intro a hs hd zl;refine wp_ret ?_;repeat first|refine then_ret ?_|refine inBlock_ret ?_
  exact end_tmp rfl hd (vL zl 0) ⟨by rw[idxB_at HX.out hpb HNO.out],hB⟩
 obtain rfl:k=S.length:=by omega
 have e1:decide (S.length<S.length)=false:=decide_eq_false (by omega);refine wp_seq ?_;refine wp_region_list ?_;show wpList _ _ _ [_] _ _
 refine tail_op rfl (fun K hK=>?_);have q7:=gd s7;have q8:=gd s8;go_simp;clear q7 q8;refine hK _ _ ?_;clear hK K;refine act_put (d:=9) _ hs hd (by decide) [(0,_),(1,_),(7,_),(8,_)] ⟨s0,s1,s7,s8,trivial⟩ rfl ?_;clear hs hd s0 s1 s7 s8;intro a hs hd zl;refine wp_seq ?_;refine wp_cond_false (vL zl 0) ?_;refine wp_exit ?_;repeat refine then_exit ?_
 refine inBlock_exit ?_;refine wn 1 ?_;clear hs hd zl;intro a hs hd zl;refine wp_ret ?_;exact end_tmp rfl hd (vL zl 0) ⟨by rw[idxB_none HNO.out],hB⟩
theorem c_ContainsSet(S:List Seat)(A:Option Addr)(c:Nat)(s:Seat)(ad:ByteArray)(gs ga:Nat)(t:TypeId)(w:World)(hS:SeatsAt w A S)(hgs:Blk w gs 63 s.cells.toArray)(hga:Blk w ga t #[.string ad])(hlen:S.length≤1000):
  Calls Tryz.prog 14 #[.slice A S.length c,.func (.func 24) #[] #[.pointer (some ⟨gs,0,none⟩),.pointer (some ⟨ga,0,none⟩)]] w fun e w'=>e=.returned (.bool (S.any (sameB s ad)))∧Below w.heap.size w w':=by
 suffices h:∀w0,(SeatsAt w0 A S)→(Blk w0 gs 63 s.cells.toArray)→(Blk w0 ga t #[.string ad])→Below w0.heap.size w0 w→Calls Tryz.prog 14 #[.slice A S.length c,.func (.func 24) #[] #[.pointer (some ⟨gs,0,none⟩),.pointer (some ⟨ga,0,none⟩)]] w fun e w'=>e=.returned (.bool (S.any (sameB s ad)))∧Below w0.heap.size w0 w' from h w hS hgs hga (bz_refl w)
 clear hS hgs hga;intro w0 hS hgs hga hB;refine enter_abs Tryz.func14 rfl 9 rfl (by simp) ?_;intro a hs hd hargs;have s0:=hargs 0 _ rfl;have s1:=hargs 1 _ rfl;clear hargs;refine wp_seq ?_;refine wp_region_list ?_;show wpList _ _ _ [_] _ _
 refine tail_op rfl (fun K hK=>?_);go_simp;refine hK _ _ ?_;clear hK K;refine act_put (d:=4) _ hs hd (by decide) [(0,_),(1,_)] ⟨s0,s1,trivial⟩ rfl ?_;clear hs hd s0 s1;intro a hs hd zl;refine wn 2 ?_;clear hs hd zl;intro a hs hd zl;refine tail_op rfl (fun K hK=>?_);have q5:=gL zl 1;have q6:=gL zl 0;go_simp;refine(c_IndexSet S A c s ad gs ga t _ (hS.after hB) (hgs.after hB) (hga.after hB) hlen).mono ?_;rintro e w3 ⟨rfl,hb2⟩;obtain⟨r,hr⟩:∃r,Is (idxB (sameB s ad) S) r:=is_self _;have hany:=idxB_any (sameB s ad) S;rw[hr.out]at hany⊢;clear q5 q6;refine hK _ _ (tP hs hd zl ?_);clear hK K hs hd zl;intro a hs hd zl;replace hB:=bz_then hB hb2;clear hb2;refine wn 1 ?_;clear hs hd zl;intro a hs hd zl;refine tail_op rfl (fun K hK=>?_);have q8:=gL zl 0;go_simp;clear q8;refine hK _ _ ?_;clear hK K;obtain⟨s8,s7,s6,s5,-,s0,s1,-⟩:=zl;refine act_put (d:=4) _ hs hd (by decide) [(0,_),(1,_),(5,_),(6,_),(7,_),(8,_)] ⟨s0,s1,s5,s6,s7,s8,trivial⟩ rfl ?_;clear hs hd s0 s1 s5 s6 s7 s8;intro a hs hd zl;refine wp_ret ?_;exact end_tmp rfl hd (vL zl 0) ⟨by simp only[hany],hB⟩
structure SetOk(S:List Seat):Prop where
 good:Good S
 nodup:(S.map Seat.a).Nodup
 le:S.length≤20
theorem SetOk.perm{S S':List Seat}(h:SetOk S)(hp:List.Perm S' S):SetOk S':=
 ⟨fun s hs=>h.good s (hp.mem_iff.1 hs),((hp.map Seat.a).nodup_iff).2 h.nodup,by rw[hp.length_eq];exact h.le⟩
structure Seat.raw(s:Seat):Prop where
 k:s.k.size≤2147483647
 p:-9223372036854775808≤s.p∧s.p≤9223372036854775807
def RowAt1(T:TypeId)(r:List Value)(v:Value)(w:World):Prop:=∃g c2,v=.slice (some ⟨g,0,none⟩) 1 c2∧Blk w g T r.toArray
theorem RowAt1.after{T:TypeId}{r:List Value}{v:Value}{w w':World}(h:RowAt1 T r v w)(hb:Below w.heap.size w w'):RowAt1 T r v w':=by
 obtain⟨g,c2,h1,h2⟩:=h;exact⟨g,c2,h1,h2.after hb⟩
def FItem.row(t:Nat)(T:TypeId)(r:List Value):FItem:={reads:=[t],fact:=fun vs w=>∃v,vs=[v]∧RowAt1 T r v w,keeps:=fun _ _ _ hb ⟨v,h1,h2⟩=>⟨v,h1,h2.after hb⟩}
theorem FItem.row_holds{t:Nat}{T:TypeId}{r:List Value}{a:Act}{w:World}:(FItem.row t T r).holds a w↔RowAt1 T r (a.tmps.getD t undef) w:=by
 constructor
 ·rintro⟨v,h1,h2⟩;injection h1 with h1;have h1:a.tmps.getD t undef=v:=h1
  rwa [h1]
 ·exact fun h=>⟨_,rfl,h⟩
theorem row_put{a:Act}{d:Nat}{T:TypeId}{r:List Value}{v:Value}{w:World}{sz:Nat}(hs:SzIs a sz)(hd:d<sz)(h:RowAt1 T r v w):(FItem.row d T r).holds (a.put (some d) v) w:=FItem.row_holds.2 (by rw[put_self a d v (by rw[hs.out];exact hd)];exact h)
theorem RowAt1.new(w:World)(T:TypeId)(r:List Value):RowAt1 T r (.slice (some ⟨w.heap.size,0,none⟩) 1 1) (w.alloc (.cells r.toArray T)):=⟨_,_,rfl,Blk.new w _ _⟩
theorem Bs.take{w:World}{A:Option Addr}{l:List Int}(h:Bs w A l)(k:Nat):Bs w A (l.take k):=fun i hi=>by
 rw[List.length_take]at hi;obtain⟨b,o,h1,h2,h3⟩:=h i (by omega);refine⟨b,o,h1,h2,?_⟩;rw[h3]
 congr 2
 rw[List.getD_eq_getElem?_getD,List.getD_eq_getElem?_getD,List.getElem?_take,if_pos (by omega)]
theorem setCell_alloc1(w:World)(u v:Value)(t:TypeId):(w.alloc (.cells #[u] t)).setCell ⟨w.heap.size,0,none⟩ v=w.alloc (.cells #[v] t):=by
 have h1:(w.alloc (.cells #[u] t))= {w with heap:=w.heap.push (.cells #[u] t)}:=rfl;have h2:(w.alloc (.cells #[v] t))= {w with heap:=w.heap.push (.cells #[v] t)}:=rfl;rw[h1,h2];unfold World.setCell
 congr 1
 apply Array.ext
 ·simp
 ·intro i hi hi';simp only[Array.getElem_modify,Array.getElem_push];simp at hi;by_cases h:w.heap.size=i
  ·subst h;simp
  ·rw[if_neg h];have:i<w.heap.size:=by omega
   simp[this]
theorem OwnR.fm_{e:TypeId}{k base n:Nat}{w:World}{A:Option Addr}{c:Nat}{R:List (List Value)}(h:OwnR e k base w A c R)(hn:R.length=n):Fm A n c:=by
 rcases h.form with⟨h1,h2,h3⟩|⟨g,cur,h1,_⟩
 ·exact .inl ⟨h1,h2,by rw[← hn,h3];rfl⟩
 ·exact .inr ⟨g,0,h1⟩
theorem c_set(L:List Seat)(A:Option Addr)(c:Nat)(w:World)(hL:SeatsAt w A L)(hf:Fm A L.length c∨∃ad,A=some ad∧L=[])(hc:L.length≤c)(hcm:c≤9223372036854775807)(hr:∀s∈L,s.raw):
  Calls Tryz.prog 6 #[.slice A L.length c] w fun e w'=>∃S A' c',e=.returned (.slice A' S.length c')∧SetOk S∧SeatsAt w' A' S∧Fm A' S.length c'∧S.length≤c'∧Below w.heap.size w w':=by
 suffices h:∀w0,(SeatsAt w0 A L)→Below w0.heap.size w0 w→Calls Tryz.prog 6 #[.slice A L.length c] w fun e w'=>∃S A' c',e=.returned (.slice A' S.length c')∧SetOk S∧SeatsAt w' A' S∧Fm A' S.length c'∧S.length≤c'∧Below w0.heap.size w0 w' from h w hL (bz_refl w)
 clear hL;intro w0 hL hB;refine enter_abs Tryz.func6 rfl 45 rfl (by simp) ?_;intro a hs hd hargs;have s0:=hargs 0 _ rfl;clear hargs;refine wp_seq ?_;refine wp_region_list ?_;show wpList _ _ _ [_] _ _
 refine tail_op rfl (fun K hK=>?_);go_simp;refine hK _ _ ?_;clear hK K;refine act_put (d:=2) _ hs hd (by decide) [(0,_)] ⟨s0,trivial⟩ rfl ?_;clear hs hd s0;intro a hs hd zl;refine wn 1 ?_;clear hs hd zl;intro a hs hd zl;rcases hf with (⟨rfl,rfl,h0⟩|⟨b,o,rfl⟩)|⟨ad,rfl,h0⟩
 rotate_left 2
 ·subst h0;clear hr hL;refine wn 7 ?_;clear hs hd zl;intro a hs hd zl;refine wp_block ?_;refine wp_loop_once ?_;refine wn 1 ?_;clear hs hd zl;intro a hs hd zl;refine wp_seq ?_;refine wp_cond_false (vL zl 0) ?_;refine wp_exit ?_;repeat refine then_exit ?_
  refine inBlock_exit ?_;refine wn 1 ?_;clear hs hd zl;intro a hs hd zl;refine tail_op rfl (fun K hK=>?_);have q43:=gL zl 0;go_simp;refine(c_Ranked [] none 0 _ (RowsAt.nil _ _ _) (fun _=>⟨rfl,rfl⟩) (by decide)).mono ?_;rintro e w3 ⟨S',A',c'',rfl,hp,hown',hb2⟩;clear q43;refine hK _ _ (tP hs hd zl ?_);clear hK K hs hd zl;intro a hs hd zl;replace hB:=bz_then hB hb2;clear hb2;refine tail_op rfl (fun K hK=>?_);have q44:=gL zl 0;go_simp;clear q44;refine hK _ _ ?_;clear hK K;obtain⟨s44,s43,s14,-,-,-,-,-,-,-,s3,-,-,-⟩:=zl;refine act_put (d:=2) _ hs hd (by decide) [(3,_),(14,_),(43,_),(44,_)] ⟨s3,s14,s43,s44,trivial⟩ rfl ?_;clear hs hd s3 s14 s43 s44;intro a hs hd zl;have hok:SetOk []:=⟨(fun s hs=>by cases hs),List.nodup_nil,by decide⟩;refine wp_ret ?_;exact end_tmp rfl hd (vL zl 0) ⟨S',A',c'',rfl,hok.perm hp,hown'.rows,hown'.fm_ (seatRows_length _),(by have:=hown'.cap;rw[seatRows_length]at this;exact this),hB⟩
 ·have hL0:L=[]:=List.eq_nil_of_length_eq_zero h0;subst hL0;clear h0 hr hL;refine wn 7 ?_;clear hs hd zl;intro a hs hd zl;refine wp_block ?_;refine wp_loop_once ?_;refine wn 1 ?_;clear hs hd zl;intro a hs hd zl;refine wp_seq ?_;refine wp_cond_false (vL zl 0) ?_;refine wp_exit ?_;repeat refine then_exit ?_
  refine inBlock_exit ?_;refine wn 1 ?_;clear hs hd zl;intro a hs hd zl;refine tail_op rfl (fun K hK=>?_);have q43:=gL zl 0;go_simp;refine(c_Ranked [] none 0 _ (RowsAt.nil _ _ _) (fun _=>⟨rfl,rfl⟩) (by decide)).mono ?_;rintro e w3 ⟨S',A',c'',rfl,hp,hown',hb2⟩;clear q43;refine hK _ _ (tP hs hd zl ?_);clear hK K hs hd zl;intro a hs hd zl;replace hB:=bz_then hB hb2;clear hb2;refine tail_op rfl (fun K hK=>?_);have q44:=gL zl 0;go_simp;clear q44;refine hK _ _ ?_;clear hK K;obtain⟨s44,s43,s14,-,-,-,-,-,-,-,s3,-,-,-⟩:=zl;refine act_put (d:=2) _ hs hd (by decide) [(3,_),(14,_),(43,_),(44,_)] ⟨s3,s14,s43,s44,trivial⟩ rfl ?_;clear hs hd s3 s14 s43 s44;intro a hs hd zl;have hok:SetOk []:=⟨(fun s hs=>by cases hs),List.nodup_nil,by decide⟩;refine wp_ret ?_;exact end_tmp rfl hd (vL zl 0) ⟨S',A',c'',rfl,hok.perm hp,hown'.rows,hown'.fm_ (seatRows_length _),(by have:=hown'.cap;rw[seatRows_length]at this;exact this),hB⟩
 obtain⟨m,hm⟩:∃m,Is (if L.length≤20 then L.length else 20) m:=is_self _;have hm20:m≤20:=by rw[← hm.out];split <;> omega
 have hmL:m≤L.length:=by rw[← hm.out];split <;> omega
 have hmc:m≤c:=by omega
 have hmin:(if(20:Int)<(L.length:Int)then(20:Int)else(L.length:Int))=(m:Int):=by rw[← hm.out];split <;> split <;> omega
 have hm3:(m:Int)≤(L.length:Int):=by omega
 have hm4:(m:Int)≤(c:Int):=by omega
 have hm5:(0:Int)≤(m:Int):=by omega
 refine wn 7 ?_;clear hs hd zl;intro a hs hd zl;refine wp_block ?_;obtain⟨s13,s12,s11,-,-,-,-,s3,-,-,-⟩:=zl;refine wp_loop (fun a w=>∃(k:Nat) (S:List Seat) (A:Option Addr) (c':Nat),SzIs a 45∧DfNil a∧LiveAll [(3,.slice A S.length c'),(11,.slice (some ⟨b,o,none⟩) m c),(12,.int .i64 ((m:Nat):Int)),(13,.int .i64 ((k:Nat):Int))] a∧(k≤m)∧(Below w0.heap.size w0 w)∧(OwnR 48 4 w0.heap.size w A c' (seatRows S))∧(Good S)∧((S.map Seat.a).Nodup)∧(S.length≤k)∧(S=[]→A=none∧c'=0))
  (fun a _=>m-(intOf (a.tmps.getD 13 undef)).toNat) ⟨0,[],none,0,hs,hd,⟨s3,s11,s12,s13,trivial⟩,Nat.zero_le _,hB,OwnR.nil _ _ _ _,(fun s hs=>by cases hs),List.nodup_nil,Nat.le_refl _,(fun _=>⟨rfl,rfl⟩)⟩ ?_
 clear hs hd s3 s11 s12 s13;rintro a w ⟨k,S,A,c',hs,hd,⟨s3,s11,s12,s13,-⟩,hk,hB,hown,hgd,hnd,hSk,hnl⟩;have hmm:(intOf (a.tmps.getD 13 undef)).toNat=k:=by rw[s13];simp[intOf]
 rw[hmm];clear hmm;by_cases hlt:k<m
 ·have e1:decide (k<m)=true:=decide_eq_true hlt;have e2:decide ((k:Int)<(m:Int))=true:=decide_eq_true (by omega);have ew:IntKind.i64.wrap ((k:Int)+1)=((k+1:Nat):Int):=by rw[IntWalk.i64_in _ (by omega)];omega
  obtain⟨x,hxk⟩:∃x,L[k]?=some x:=⟨L[k]'(by omega),List.getElem?_eq_getElem (by omega)⟩;have hxr:=hr x (List.mem_of_getElem? hxk);have hxk1:=hxr.k;have hxp:=hxr.p;obtain⟨b',o',hA0,hb0,hcells⟩:=(hL.after hB).at_ (by omega);injection hA0 with hA0;injection hA0 with hA1 hA2;subst hA1 hA2;have hck:=hcells k x hxk;clear hcells hxk hmin;have kc:=fun(w:World)=>Lib.run_convert_string_bytes (P:=Tryz.prog) w 9 32 5 (x.k) Tryz.underlying9 Tryz.underlying32 Tryz.underlying5
  refine wp_seq ?_;refine wp_region_list ?_;show wpList _ _ _ [_] _ _
  refine tail_op rfl (fun K hK=>?_);have q12:=gd s12;have q13:=gd s13;go_simp;clear q12 q13;refine hK _ _ ?_;clear hK K;refine act_put (d:=14) _ hs hd (by decide) [(3,_),(11,_),(12,_),(13,_)] ⟨s3,s11,s12,s13,trivial⟩ rfl ?_;clear hs hd s3 s11 s12 s13;intro a hs hd zl;refine wn 1 ?_;clear hs hd zl;intro a hs hd zl;refine tail_op rfl (fun K hK=>?_);have q15:=gL zl 0;have s15:=vL zl 0;refine op_load_cells 63 (.tmp 15) rfl b _ s15 x.cells _ hck rfl rfl (by kernel_rfl) ?_;clear q15;refine hK _ _ (tP hs hd zl ?_);clear hK K hs hd zl s15;intro a hs hd zl;refine tail_op rfl (fun K hK=>?_);go_simp;refine hK _ _ (tP hs hd zl ?_);clear hK K hs hd zl;intro a hs hd zl;refine tail_op rfl (fun K hK=>?_);have q5:=gL zl 0;have q16:=gL zl 1;have s5:=vL zl 0;have s16:=vL zl 1;refine op_store_row 63 (.tmp 5) (.tmp 16) rfl w.heap.size s5 _ s16 63 _ (Blk.new w _ _) rfl (by kernel_rfl) (seat_one x) ?_;clear q5 q16;refine hK _ _ ?_;clear hK K;change wpList _ _ _ _ a _;rw[setRow_alloc_at _ _ _ _ _ rfl];obtain⟨g5,hE⟩:∃B,Is w.heap.size B:=is_self _;generalize hw1:World.alloc w _=w1;have hg5:Blk w1 g5 63 x.cells.toArray:=by rw[← hw1,← hE.out];exact Blk.new w _ _
  have hB1:Below w.heap.size w w1:=by rw[← hw1];exact bz_alloc (bz_refl w) _
  replace hB:=bz_then hB hB1;replace hown:=hown.after hB1;clear s5 s16;obtain⟨s5,s16,s15,s14,s3,s11,s12,s13,-⟩:=zl;rw[hE.out]at s5;clear hw1 hB1 hE;clear hck;clear s14 s15 s16;refine wp_seq ?_;have c1:w1.cell? ⟨g5,1,none⟩=some (.string x.k):=by rw[hg5.cell];rfl
  refine wp_region_list ?_;show wpList _ _ _ [_,_,_,_,_,_,_,_] _ _
  refine tail_op rfl (fun K hK=>?_);have q5:=gd s5;go_simp;clear q5;refine hK _ _ ?_;clear hK K;refine act_put (d:=17) _ hs hd (by decide) [(3,_),(5,_),(11,_),(12,_),(13,_)] ⟨s3,s5,s11,s12,s13,trivial⟩ rfl ?_;clear hs hd s3 s5 s11 s12 s13;intro a hs hd zl;refine wn 1 ?_;clear hs hd zl;intro a hs hd zl;refine tail_op rfl (fun K hK=>?_);have q18:=gL zl 0;go_simp;clear q18;refine hK _ _ (tP hs hd zl ?_);clear hK K hs hd zl;intro a hs hd zl;have i19:=conv_at w1 5 x.k;generalize hw1:Lib.bytesWorld w1 _ _=w2;rw[hw1]at i19;have hB1:Below w1.heap.size w1 w2:=by rw[← hw1];exact bz_bytes (bz_refl w1) _ _
  replace hB:=bz_then hB hB1;replace hown:=hown.after hB1;replace hg5:=hg5.after hB1;clear hw1 hB1 c1 kc;refine tail_op rfl (fun K hK=>?_);have q19:=gL zl 0;obtain⟨x19,A19,k19,hx19,hv19,f19,n19,b19,-⟩:=i19;rw[hv19]at q19;go_simp;refine(c_specSum A19 k19 x19 _ b19 (by rw[hx19.out];exact bytesOf_bytes _) (by rw[hx19.out,bytesOf_length];omega)).mono ?_;intro e w3 h;rw[hx19.out]at h;obtain⟨v,rfl,hv,hb2⟩:=h.at0;clear q19;refine hK _ _ (tP hs hd zl ?_);clear hK K hs hd zl;intro a hs hd zl;replace hB:=bz_then hB hb2;replace hown:=hown.after hb2;replace hg5:=hg5.after hb2;clear hb2 hv19;refine tail_op rfl (fun K hK=>?_);have q20:=gL zl 0;obtain⟨x20,A20,k20,hx20,rfl,f20,n20,b20,-⟩:=hv;have hl20:x20.length=32:=by rw[hx20.out];rfl
  have h8:Bytes x20:=by rw[hx20.out];exact sha_bytes _
  obtain⟨b2,o2,rfl,-,-⟩:=b20.at_ (by omega);rw[hl20]at q20 n20;have hc20:¬ (k20=20):=by omega
  have hc20':(20:Int)≤(k20:Int):=by omega
  have hc20'':20≤k20:=by omega
  go_simp;clear q20;refine hK _ _ (tP hs hd zl ?_);clear hK K hs hd zl;intro a hs hd zl;refine tail_op rfl (fun K hK=>?_);have q21:=gL zl 0;have hl2:(x20.take 20).length=20:=by rw[List.length_take,hl20];rfl
  have kb:=run_conv_bs (A:=some ⟨b2,o2,none⟩) (c:=k20) (l:=x20.take 20) (.inr ⟨_,_,rfl⟩) (b20.take 20) 32 9 Tryz.underlying32 Tryz.underlying9;rw[hl2]at kb;obtain⟨ad,had⟩:∃s,Is (strOfNums (x20.take 20)) s:=is_self _;have hads:ad.size=20:=by rw[← had.out,str_size];exact hl2
  rw[had.out]at kb;go_simp;clear q21;refine hK _ _ (tP hs hd zl ?_);clear hK K hs hd zl;intro a hs hd zl;refine tail_op rfl (fun K hK=>?_);go_simp;refine hK _ _ (tP hs hd zl ?_);clear hK K hs hd zl;intro a hs hd zl;refine tail_op rfl (fun K hK=>?_);have q6:=gL zl 0;have q22:=gL zl 1;go_simp;clear q6 q22;refine hK _ _ ?_;clear hK K;change wpList _ _ _ _ a _;obtain⟨g6,hE⟩:∃B,Is w3.heap.size B:=is_self _;generalize hw1:World.alloc w3 _=w4;have hg6:Blk w4 g6 9 #[.string ad]:=by rw[← hw1,← hE.out];exact Blk.new w3 _ _
  have hB1:Below w3.heap.size w3 w4:=by rw[← hw1];exact bz_alloc (bz_refl w3) _
  replace hB:=bz_then hB hB1;replace hown:=hown.after hB1;replace hg5:=hg5.after hB1;obtain⟨s6,s22,s21,s20,s19,s18,s17,s3,s5,s11,s12,s13,-⟩:=zl;rw[hE.out]at s6;clear hw1 hB1 hE;clear b20 h8 hl20 hl2 hx20 n20 hc20 hc20' hc20'' f20;clear s17 s18 s19 s20 s21 s22;have c1:w4.cell? ⟨g5,1,none⟩=some (.string x.k):=by rw[hg5.cell];rfl
  by_cases hx0:x.k.size=0
  ·have hxe:x.k.toList.isEmpty=true:=by
    rw[List.isEmpty_iff,ByteArray.toList_eq];exact List.eq_nil_of_length_eq_zero (by rw[Array.length_toList];exact hx0)
   refine wp_seq ?_;refine wp_seq ?_;refine fl2 (F:=[(3,_),(5,_),(6,_),(11,_),(12,_),(13,_)]) [.eq 23 _,.eq 24 _,.eq 25 (.bool true),.eq 26 (.bool true),.eq 27 _,.eq 28 _,.eq 29 _] 7 hs hd ⟨s3,s5,s6,s11,s12,s13,trivial⟩
    ⟨sP bq,
     sP bq,
     sP bq,
     sP bq,
     sN,
     sN,
     sN,
     trivial⟩ ?_
   clear hs hd s3 s5 s6 s11 s12 s13;intro a w hb hs hd zl hh;replace zl:=lH hh 3 zl;replace zl:=lH hh 6 zl;clear hh;replace hown:=hown.after hb;replace hg5:=hg5.after hb;replace hg6:=hg6.after hb;replace c1:=cell_up hb c1;replace hB:=bz_then hB hb;clear hb;refine wn 1 ?_;clear hs hd zl;intro a hs hd zl;clear c1;refine wp_cond_true (vL zl 0) ?_;refine wp_exit ?_;repeat refine then_exit ?_
   refine inBlock_exit ?_;refine wn 1 ?_;clear hs hd zl;intro a hs hd zl;refine tail_op rfl (fun K hK=>?_);have q42:=gL zl 0;go_simp;clear q42;refine hK _ _ ?_;clear hK K;obtain⟨s42,s30,-,-,s3,s5,s6,s11,s12,s13,-⟩:=zl;refine act_put (d:=13) _ hs hd (by decide) [(3,_),(5,_),(6,_),(11,_),(12,_),(30,_),(42,_)] ⟨s3,s5,s6,s11,s12,s30,s42,trivial⟩ rfl ?_;clear hs hd s3 s5 s6 s11 s12 s13 s30 s42;intro a hs hd zl;obtain⟨s13,s3,-,-,s11,s12,-,-,-⟩:=zl;refine⟨⟨k+1,S,_,_,hs,hd,⟨s3,s11,s12,s13,trivial⟩,hlt,hB,hown,hgd,hnd,Nat.le_succ_of_le hSk,hnl⟩,?_⟩;rw[s13];simp[intOf];omega
  have hxe:x.k.toList.isEmpty=false:=by
   rw[← Bool.not_eq_true,List.isEmpty_iff];intro e;rw[ByteArray.toList_eq]at e;apply hx0;show x.k.data.size=0
   rw[← Array.length_toList,e];rfl
  clear hx0;obtain⟨pb,hpb⟩:∃b,S.any (sameB x ad)=b:=⟨_,rfl⟩;have hS20:S.length≤1000:=by omega
  cases pb
  ·clear e1 e2;refine wp_seq ?_;refine wp_seq ?_;refine fl2 (F:=[(3,_),(5,_),(6,_),(11,_),(12,_),(13,_)]) [.eq 23 _,.eq 24 _,.eq 25 (.bool false),.eq 26 (.bool false),.eq 27 _,.eq 28 _,.eq 29 _] 7 hs hd ⟨s3,s5,s6,s11,s12,s13,trivial⟩
    ⟨sP bq,
     sP bq,
     sP bq,
     sP bq,
     sY bq,
     sY bq,
     (fun a u hb hs hl hd K hK=>by
      have s27:=gD hd 4;have s28:=gD hd 5;have c1:=cell_up hb c1;have g26:=vD hd 3;clear hd;refine step_yes rfl (j:=3) (d:=26) rfl rfl g26 ?_;go_simp;refine(c_ContainsSet S A c' x ad g5 g6 _ u (hown.after hb).rows (hg5.after hb) (hg6.after hb) (by omega)).mono ?_;rintro e w5 ⟨rfl,hb2⟩;rw[hpb];exact hK _ _ hb2 (eq_put hs (by decide))),
     trivial⟩ ?_
   clear hs hd s3 s5 s6 s11 s12 s13;intro a w hb hs hd zl hh;replace zl:=lH hh 3 zl;replace zl:=lH hh 6 zl;clear hh;replace hown:=hown.after hb;replace hg5:=hg5.after hb;replace hg6:=hg6.after hb;replace c1:=cell_up hb c1;replace hB:=bz_then hB hb;clear hb;refine wn 1 ?_;clear hs hd zl;intro a hs hd zl;clear c1;refine wp_cond_false (vL zl 0) ?_;refine wp_skip ?_;obtain⟨y,hy⟩:∃y:Seat,Is ⟨ad,x.k,1+bel x.p 1000000,0⟩ y:=is_self _;have hbr:=bel_range x.p 1000000 (by decide);obtain⟨bp,hbp⟩:∃n,Is (bel x.p 1000000) n:=is_self _;rw[hbp.out]at hbr;have hyc:y.cells=[.string ad,.string x.k,.int .i64 (1+bp),.int .i64 0]:=by rw[← hy.out,← hbp.out];rfl
   have ea:IntKind.i64.wrap (1+bp)=1+bp:=IntWalk.i64_in _ (by omega);have c0:w.cell? ⟨g6,0,none⟩=some (.string ad):=by rw[hg6.cell];rfl
   have c1:w.cell? ⟨g5,1,none⟩=some (.string x.k):=by rw[hg5.cell];rfl
   have c2:w.cell? ⟨g5,2,none⟩=some (.int .i64 x.p):=by rw[hg5.cell];rfl
   have hYG:=Is.hid hyc;clear hyc;obtain⟨s30,-,-,s3,s5,s6,s11,s12,s13,-⟩:=zl;refine fl2 (F:=[(3,_),(5,_),(6,_),(11,_),(12,_),(13,_),(30,_)]) [.eq 31 _,.eq 32 _,.eq 33 _,.eq 34 _,.eq 35 _,.eq 36 _,.eq 37 _,.eq 38 _,.eq 39 (.agg #[.string ad,.string x.k,.int .i64 (1+bp),.int .i64 0]),FItem.row 40 48 [.string ad,.string x.k,.int .i64 (1+bp),.int .i64 0]] 10 hs hd ⟨s3,s5,s6,s11,s12,s13,s30,trivial⟩
    ⟨sP bq,
     sP bq,
     sP bq,
     sP bq,
     sP bq,
     sP bq,
     (stp rfl fun a u hb hs hl hd K hK=>by
      have s36:=gD hd 5;have c0:=cell_up hb c0;have c1:=cell_up hb c1;have c2:=cell_up hb c2;clear hd;go_simp;refine(c_below x.p 1000000 _ (by omega) (by decide)).mono ?_;rintro e w5 ⟨rfl,hw5⟩;obtain rfl:=hw5;rw[hbp.out];exact kE hK hs),
     sP bq,
     sP bq,
     (stp rfl fun a u hb hs hl hd K hK=>by
      have s39:=gD hd 8;have c0:=cell_up hb c0;have c1:=cell_up hb c1;have c2:=cell_up hb c2;clear hd;go_simp;exact hK _ _ (bz_alloc (bz_refl _) _) (row_put hs (by decide) (RowAt1.new _ _ [.string ad,.string x.k,.int .i64 (1+bp),.int .i64 0]))),
     trivial⟩ ?_
   clear hs hd s3 s5 s6 s11 s12 s13 s30;intro a w hb hs hd zl hh;replace zl:=lH hh 0 zl;have i40:=FItem.row_holds.1 (hold_get hh 9);obtain⟨v40,s40⟩:∃v,a.tmps.getD 40 undef=v:=⟨_,rfl⟩;rw[s40]at i40;clear hh;replace hown:=hown.after hb;replace c0:=cell_up hb c0;replace c1:=cell_up hb c1;replace c2:=cell_up hb c2;replace hB:=bz_then hB hb;clear hb;show wpList _ _ _ [_,_] _ _
   refine tail_op rfl (fun K hK=>?_);have q31:=gL zl 0;have q40:=gd s40;obtain⟨g7,c7,rfl,hg7⟩:=i40;have s31:=vL zl 0;refine op_app_row (.tmp 31) (.tmp 40) rfl Tryz.underlying26 seat_info rfl (by decide) (R:=seatRows S) (r:=[.string ad,.string x.k,.int .i64 (1+bp),.int .i64 0]) (by rw[seatRows_length];exact s31) s40 hown hg7 rfl (by rw[← hYG.out];exact seat_one y) (by rw[seatRows_length];omega) (by decide) hB.size ?_;intro A' c'' w5 hown' hbel _ _;rw[← hYG.out]at hown'⊢;have hlen':(seatRows S++[y.cells]).length=(S++[y]).length:=by rw[List.length_append,List.length_append,seatRows_length];rfl
   rw[hlen'];obtain⟨S2,hS2⟩:∃S2,Is (S++[y]) S2:=is_self _;rw[hS2.out];have hrows:seatRows S2=seatRows S++[y.cells]:=by rw[← hS2.out];unfold seatRows;rw[List.map_append];rfl
   rw[← hrows]at hown';clear hlen' hrows hown hg7;clear q31 q40;refine hK _ _ ?_;clear hK K;clear s31;obtain⟨s31,s3,-,-,s11,s12,s13,-,-⟩:=zl;refine act_put (d:=41) _ hs hd (by decide) [(3,_),(11,_),(12,_),(13,_),(31,_),(40,_)] ⟨s3,s11,s12,s13,s31,s40,trivial⟩ rfl ?_;clear hs hd s3 s11 s12 s13 s31 s40;intro a hs hd zl;replace hB:=hB.trans hbel;clear hbel;refine tail_op rfl (fun K hK=>?_);have q41:=gL zl 0;go_simp;clear q41;refine hK _ _ ?_;clear hK K;obtain⟨s41,s3,s11,s12,s13,s31,s40,-⟩:=zl;refine act_put (d:=3) _ hs hd (by decide) [(11,_),(12,_),(13,_),(31,_),(40,_),(41,_)] ⟨s11,s12,s13,s31,s40,s41,trivial⟩ rfl ?_;clear hs hd s3 s11 s12 s13 s31 s40 s41;intro a hs hd zl;have hya:y.a=ad:=by rw[← hy.out]
   have hyg:y.good:=by
    rw[← hy.out,hbp.out];exact⟨hads,hxk1,⟨show 1≤1+bp by omega,show 1+bp≤1000000 by omega⟩,rfl⟩
   have hgd':Good S2:=by
    rw[← hS2.out];intro s hs';rcases List.mem_append.1 hs' with h|h
    ·exact hgd s h
    ·rw[List.mem_singleton.1 h];exact hyg
   have hnd':(S2.map Seat.a).Nodup:=by
    rw[← hS2.out,List.map_append,List.nodup_append];refine⟨hnd,List.nodup_cons.2 ⟨by simp,List.nodup_nil⟩,?_⟩;intro a1 h1 a2 h2 he;obtain⟨s,hs',rfl⟩:=List.mem_map.1 h1;have h3:a2=ad:=by simpa [hya]using h2
    have h4:=List.any_eq_false.1 hpb s hs';apply h4;unfold sameB;rw[Bool.or_eq_true];exact .inr ((eqB_iff _ _).2 (he.trans h3))
   have hSk':S2.length≤k+1:=by rw[← hS2.out,List.length_append];exact Nat.succ_le_succ hSk
   refine wn 1 ?_;clear hs hd zl;intro a hs hd zl;refine tail_op rfl (fun K hK=>?_);have q42:=gL zl 0;go_simp;clear q42;refine hK _ _ ?_;clear hK K;obtain⟨s42,s3,s11,s12,s13,-,-,-,-⟩:=zl;refine act_put (d:=13) _ hs hd (by decide) [(3,_),(11,_),(12,_),(42,_)] ⟨s3,s11,s12,s42,trivial⟩ rfl ?_;clear hs hd s3 s11 s12 s13 s42;intro a hs hd zl;obtain⟨s13,s3,s11,s12,-,-⟩:=zl;refine⟨⟨k+1,S2,_,_,hs,hd,⟨s3,s11,s12,s13,trivial⟩,hlt,hB,hown',hgd',hnd',hSk',(fun h=>by rw[← hS2.out]at h;simp at h)⟩,?_⟩;rw[s13];simp[intOf];omega
  refine wp_seq ?_;refine wp_seq ?_;refine fl2 (F:=[(3,_),(5,_),(6,_),(11,_),(12,_),(13,_)]) [.eq 23 _,.eq 24 _,.eq 25 (.bool false),.eq 26 (.bool false),.eq 27 _,.eq 28 _,.eq 29 _] 7 hs hd ⟨s3,s5,s6,s11,s12,s13,trivial⟩
   ⟨sP bq,
    sP bq,
    sP bq,
    sP bq,
    sY bq,
    sY bq,
    (fun a u hb hs hl hd K hK=>by
     have s27:=gD hd 4;have s28:=gD hd 5;have c1:=cell_up hb c1;have g26:=vD hd 3;clear hd;refine step_yes rfl (j:=3) (d:=26) rfl rfl g26 ?_;go_simp;refine(c_ContainsSet S A c' x ad g5 g6 _ u (hown.after hb).rows (hg5.after hb) (hg6.after hb) (by omega)).mono ?_;rintro e w5 ⟨rfl,hb2⟩;rw[hpb];exact hK _ _ hb2 (eq_put hs (by decide))),
    trivial⟩ ?_
  clear hs hd s3 s5 s6 s11 s12 s13;intro a w hb hs hd zl hh;replace zl:=lH hh 3 zl;replace zl:=lH hh 6 zl;clear hh;replace hown:=hown.after hb;replace hg5:=hg5.after hb;replace hg6:=hg6.after hb;replace c1:=cell_up hb c1;replace hB:=bz_then hB hb;clear hb;refine wn 1 ?_;clear hs hd zl;intro a hs hd zl;clear c1;refine wp_cond_true (vL zl 0) ?_;refine wp_exit ?_;repeat refine then_exit ?_
  refine inBlock_exit ?_;refine wn 1 ?_;clear hs hd zl;intro a hs hd zl;refine tail_op rfl (fun K hK=>?_);have q42:=gL zl 0;go_simp;clear q42;refine hK _ _ ?_;clear hK K;obtain⟨s42,s30,-,-,s3,s5,s6,s11,s12,s13,-⟩:=zl;refine act_put (d:=13) _ hs hd (by decide) [(3,_),(5,_),(6,_),(11,_),(12,_),(30,_),(42,_)] ⟨s3,s5,s6,s11,s12,s30,s42,trivial⟩ rfl ?_;clear hs hd s3 s5 s6 s11 s12 s13 s30 s42;intro a hs hd zl;obtain⟨s13,s3,-,-,s11,s12,-,-,-⟩:=zl;refine⟨⟨k+1,S,_,_,hs,hd,⟨s3,s11,s12,s13,trivial⟩,hlt,hB,hown,hgd,hnd,Nat.le_succ_of_le hSk,hnl⟩,?_⟩;rw[s13];simp[intOf];omega
 have e1:decide (k<m)=false:=decide_eq_false hlt;have e2:decide ((k:Int)<(m:Int))=false:=decide_eq_false (by omega);refine wp_seq ?_;refine wp_region_list ?_;show wpList _ _ _ [_] _ _
 refine tail_op rfl (fun K hK=>?_);have q12:=gd s12;have q13:=gd s13;go_simp;clear q12 q13;refine hK _ _ ?_;clear hK K;refine act_put (d:=14) _ hs hd (by decide) [(3,_),(11,_),(12,_),(13,_)] ⟨s3,s11,s12,s13,trivial⟩ rfl ?_;clear hs hd s3 s11 s12 s13;intro a hs hd zl;refine wp_seq ?_;refine wp_cond_false (vL zl 0) ?_;refine wp_exit ?_;repeat refine then_exit ?_
 refine inBlock_exit ?_;refine wp_seq ?_;have hok:SetOk S:=⟨hgd,hnd,by omega⟩;have hnil:=hnl;refine wn 1 ?_;clear hs hd zl;intro a hs hd zl;refine tail_op rfl (fun K hK=>?_);have q43:=gL zl 0;go_simp;refine(c_Ranked S A c' _ hown.rows hnil hok.le).mono ?_;rintro e w3 ⟨S',A',c'',rfl,hp,hown',hb2⟩;clear q43;refine hK _ _ (tP hs hd zl ?_);clear hK K hs hd zl;intro a hs hd zl;replace hB:=bz_then hB hb2;clear hb2;refine wn 1 ?_;clear hs hd zl;intro a hs hd zl;refine wp_ret ?_;exact end_tmp rfl hd (vL zl 0) ⟨S',A',c'',rfl,hok.perm hp,hown'.rows,hown'.fm_ (seatRows_length _),(by have:=hown'.cap;rw[seatRows_length]at this;exact this),hB⟩
theorem c_safeAdd(a b:Int)(w:World)(ha:0≤a∧a≤1000000000000)(hb:0<b∧b≤1000000000000):Calls Tryz.prog 159 #[.int .i64 a,.int .i64 b] w fun e w'=>e=.returned (.tuple #[.int .i64 (a+b),.bool false])∧w'=w:=by
 have e1:IntKind.i64.wrap (9223372036854775807-b)=9223372036854775807-b:=IntWalk.i64_in _ (by omega);have e2:decide (9223372036854775807-b<a)=false:=decide_eq_false (by omega);have e3:decide (0<b)=true:=decide_eq_true (by omega);have e4:decide (b<0)=false:=decide_eq_false (by omega);have e5:IntKind.i64.wrap (a+b)=a+b:=IntWalk.i64_in _ (by omega)
 go_enter Tryz.func159,Tryz.ntmps159
 go_wp2
 exact bodyPost_ret (v:=.tuple #[.int .i64 (a+b),.bool false]) (by simp[results,Tryz.results159,go_sem]) rfl (⟨rfl,rfl⟩)
theorem c_safeAddClip(a b:Int)(w:World)(ha:0≤a∧a≤1000000000000)(hb:0<b∧b≤1000000000000):Calls Tryz.prog 151 #[.int .i64 a,.int .i64 b] w fun e w'=>e=.returned (.int .i64 (a+b))∧w'=w:=by
 go_enter Tryz.func151,Tryz.ntmps151
 go_wp2_with (go_at_call 159;refine(c_safeAdd _ _ _ ha hb).mono ?_;rintro e w1 ⟨rfl,rfl⟩)
 go_ret
 exact⟨rfl,rfl⟩
theorem c_safeMul(a:Int)(w:World)(ha:0<a∧a≤1000000000000):Calls Tryz.prog 114 #[.int .i64 a,.int .i64 1] w fun e w'=>e=.returned (.tuple #[.int .i64 a,.bool false])∧w'=w:=by
 have e1:(a == 0)=false:=by rw[beq_eq_false_iff_ne];omega
 have e2:decide (a<0)=false:=decide_eq_false (by omega);have e3:decide (9223372036854775807<a)=false:=decide_eq_false (by omega);have e4:IntKind.i64.wrap (a*1)=a:=by rw[Int.mul_one];exact IntWalk.i64_in _ (by omega)
 have e5:IntKind.i64.wrap a=a:=IntWalk.i64_in _ (by omega)
 go_enter Tryz.func114,Tryz.ntmps114
 go_wp2
 exact bodyPost_ret (v:=.tuple #[.int .i64 a,.bool false]) (by simp[results,Tryz.results114,go_sem]) rfl (⟨rfl,rfl⟩)
theorem c_bidNil(p:Int)(A A':Option Addr)(c c' n n':Nat)(w:World)(hn:0<n):Calls Tryz.prog 104 #[.agg #[.slice A n c,.int .u32 p,.slice A' n' c']] w fun e w'=>e=.returned (.bool false)∧Below w.heap.size w w':=by
 have e1:((n:Int) == 0)=false:=by rw[beq_eq_false_iff_ne];omega
 go_enter Tryz.func104,Tryz.ntmps104
 go_wp2
 go_ret
 exact⟨rfl,by(repeat' (first|exact Below.refl _ _|exact Nat.le_refl _|(with_reducible assumption)|refine Below.setCell ?_ ?_ _|refine Below.alloc ?_ ?_ _|refine below_drewN ?_ _|refine Below.drew ?_|(simp;done)|omega|(simp;omega)|(simp at *;omega)))⟩
theorem c_canPsh(p:Int)(A':Option Addr)(c' n':Nat)(w:World):Calls Tryz.prog 167 #[.agg #[.int .u32 p,.slice A' n' c']] w fun e w'=>e=.returned (.agg #[.int .u32 p,.slice A' n' c'])∧Below w.heap.size w w':=by
 go_enter Tryz.func167,Tryz.ntmps167
 go_wp2
 exact bodyPost_ret (v:=.agg #[.int .u32 p,.slice A' n' c']) (by simp[results,Tryz.results167,go_sem]) rfl (⟨rfl,by(repeat' (first|exact Below.refl _ _|exact Nat.le_refl _|(with_reducible assumption)|refine Below.setCell ?_ ?_ _|refine Below.alloc ?_ ?_ _|refine below_drewN ?_ _|refine Below.drew ?_|(simp;done)|omega|(simp;omega)|(simp at *;omega)))⟩)
theorem c_csBid(p s n:Int)(A A' A1 A2:Option Addr)(c c' n1 n' n3 n4 c1 c2:Nat)(w:World):Calls Tryz.prog 160 #[.agg #[.int .u8 2,.slice A1 n3 c1,.int .i64 s,.int .i32 n,.slice A2 n4 c2],.agg #[.slice A n1 c,.int .u32 p,.slice A' n' c']] w fun e w'=>e=.returned (.agg #[.slice A n1 c,.int .u32 p,.slice A' n' c'])∧Below w.heap.size w w':=by
 go_enter Tryz.func160,Tryz.ntmps160
 go_wp2
 exact bodyPost_ret (v:=.agg #[.slice A n1 c,.int .u32 p,.slice A' n' c']) (by simp[results,Tryz.results160,go_sem]) rfl (⟨rfl,by(repeat' (first|exact Below.refl _ _|exact Nat.le_refl _|(with_reducible assumption)|refine Below.setCell ?_ ?_ _|refine Below.alloc ?_ ?_ _|refine below_drewN ?_ _|refine Below.drew ?_|(simp;done)|omega|(simp;omega)|(simp at *;omega)))⟩)
theorem c_pshEq(p:Int)(A A':Option Addr)(c c':Nat)(r:List Int)(w:World)(hf:Fm A r.length c)(hb:Bs w A r)(h8:Bytes r)(hf':Fm A' r.length c')(hb':Bs w A' r):
  Calls Tryz.prog 155 #[.agg #[.int .u32 p,.slice A r.length c],.agg #[.int .u32 p,.slice A' r.length c']] w fun e w'=>e=.returned (.bool true)∧Below w.heap.size w w':=by
 have h1:=hb.below (bz_alloc (bz_alloc (bz_refl w) (.cells #[.int .u32 p,.slice A r.length c] 115)) (.cells #[.int .u32 p,.slice A' r.length c'] 115));have h2:=hb'.below (bz_alloc (bz_alloc (bz_refl w) (.cells #[.int .u32 p,.slice A r.length c] 115)) (.cells #[.int .u32 p,.slice A' r.length c'] 115))
 go_enter Tryz.func155,Tryz.ntmps155
 go_wp2_with (go_at_call 75;refine(c_bEqual _ _ _ _ _ _ _ hf h1 h8 hf' h2 h8).mono ?_;rintro e w1 ⟨rfl,rfl⟩)
 go_ret
 exact⟨by simp,by(repeat' (first|exact Below.refl _ _|exact Nat.le_refl _|(with_reducible assumption)|refine Below.setCell ?_ ?_ _|refine Below.alloc ?_ ?_ _|refine below_drewN ?_ _|refine Below.drew ?_|(simp;done)|omega|(simp;omega)|(simp at *;omega)))⟩
theorem c_bidEq(p:Int)(A A' A1 A1':Option Addr)(c c' c1 c1':Nat)(s r:List Int)(w:World)(hf:Fm A s.length c)(hb:Bs w A s)(h8:Bytes s)(hf':Fm A' s.length c')(hb':Bs w A' s)(hf1:Fm A1 r.length c1)(hb1:Bs w A1 r)(h81:Bytes r)(hf1':Fm A1' r.length c1')(hb1':Bs w A1' r):
  Calls Tryz.prog 145 #[.agg #[.slice A s.length c,.int .u32 p,.slice A1 r.length c1],.agg #[.slice A' s.length c',.int .u32 p,.slice A1' r.length c1']] w fun e w'=>e=.returned (.bool true)∧Below w.heap.size w w':=by
 have hW:=bz_alloc (bz_alloc (bz_refl w) (.cells #[.slice A s.length c,.int .u32 p,.slice A1 r.length c1] 117)) (.cells #[.slice A' s.length c',.int .u32 p,.slice A1' r.length c1'] 117);have h1:=hb.below hW;have h2:=hb'.below hW;have h3:=hb1.below hW;have h4:=hb1'.below hW;have e0:decide (s=s)=true:=by simp
 go_enter Tryz.func145,Tryz.ntmps145
 go_wp2_with (first|(go_at_call 75;refine(c_bEqual _ _ _ _ _ _ _ hf h1 h8 hf' h2 h8).mono ?_;rintro e w1 ⟨rfl,rfl⟩)|(go_at_call 155;refine(c_pshEq _ _ _ _ _ _ _ hf1 h3 h81 hf1' h4).mono ?_;rintro e w1 ⟨rfl,hb1⟩))
 go_ret
 exact⟨rfl,bz_then hW hb1⟩
def le8(n:Nat):List Int:=(List.range 8).map fun i=>((n / 2 ^ (8*i) % 256:Nat):Int)
def fixL(f n:Nat):List Int:=if n=0 then[]else((f*8+1:Nat):Int)::le8 n
theorem le8_len(n:Nat):(le8 n).length=8:=by simp[le8]
theorem fixL_len(f n:Nat):(fixL f n).length≤9:=by unfold fixL;split <;> simp[le8_len]
theorem le8_snoc(n k:Nat)(h:k<8):(le8 n).take (k+1)=(le8 n).take k++[((n / 2 ^ (8*k) % 256:Nat):Int)]:=by
 rw[List.take_add_one]
 congr 1
 unfold le8;rw[List.getElem?_map,List.getElem?_range h];rfl
theorem le8_cast(n k:Nat):((n / 2 ^ (8*k) % 256:Nat):Int)=(n:Int) / 2 ^ (8*k) % 256:=by simp
theorem or_one(f:Int)(hf:0≤f∧f≤15):bits .or .i64 (f*8) 1=f*8+1:=by
 obtain⟨n,rfl⟩:=Int.eq_ofNat_of_zero_le hf.1;have hn:n≤15:=by omega
 have:∀n:Fin 16,bits .or .i64 (((n.val:Nat):Int)*8) 1=((n.val:Nat):Int)*8+1:=by decide
 exact this ⟨n,by omega⟩
theorem c_fixedN(f n:Nat)(w:World)(hf:f≤15)(hn:n≤9223372036854775807):Calls Tryz.prog 59 #[.int .i64 f,.int .i64 n] w (OutB w (fixL f n)):=by
 by_cases h0:n=0
 ·subst h0
  go_enter Tryz.func59,Tryz.ntmps59
  go_wp2
  go_ret
  exact OutB.mk' rfl (OwnB.nil _ _) (Below.refl _ _)
 ·have h1:((n:Int) == 0)=false:=by simpa using h0
  have h2:=or_one f (by omega);have hfin:Is (fixL f n) (vi (f*8+1)++le8 n):=by unfold Is fixL;rw[if_neg h0,vi_lo (f*8+1) (by omega)];rfl
  go_enter Tryz.func59,Tryz.ntmps59
  go_wp2_with (fail)
  refine(c_counted _ _ (by omega) (by omega)).mono ?_;rintro e w1 ⟨l1,A1,c1,hl1,rfl,ho1,hb1⟩;have hn1:=vi_len63 (((f:Int)*8+1).toNat) (by omega);rw[← hl1.out]at hn1;have hz1:=hb1.size
  go_wp2
  go_loopw [5,13] (fun v u wr=>∃k:Nat,∃A c pre,Is pre (l1++(le8 n).take k)∧k≤8∧v=.slice A pre.length c∧u=.int .i64 k∧OwnB w.heap.size wr A c pre∧Below w.heap.size w wr)
   (fun _ u _=>(8-intOf u).toNat)
  case atStart=>exact⟨0,A1,c1,l1,by unfold Is;simp,by omega,rfl,rfl,ho1,hb1⟩
  case round=>
   obtain⟨k,A,c,pre,hpre,hk,rfl,rfl,hown,hbr⟩:=hrel;have hz:=hbr.size;have hpl:pre.length≤30:=by
    have:=congrArg List.length hpre.out;rw[List.length_append,List.length_take,le8_len]at this;omega
   by_cases hlt:k<8
   ·have hlt':(k:Int)<8:=by omega
    have hw8:IntKind.i64.wrap (8*(k:Int))=8*(k:Int):=IntWalk.i64_in _ (by omega);have hsh:=sh64 n (8*k) (8*(k:Int)) (by omega) (by omega);have hkn:¬ (8*(k:Int))<0:=by omega
    go_wp2_with (at_builtin;refine stop ?_)
    (refine on_ ?_;refine app_u8 rfl (.tmp 16) (.tmp 23) rfl rfl (l2:=[_]) (c2:=1) rfl (hown.alloc _) (bs_one _ _ _) (by first|omega|(simp;omega)) (by first|omega|(simp;omega)) ?_)
    intro l2 A2 c2 w2 hl2 hn2 hown2 hb2 _ _
    go_wp2
    go_roundw
    case rel=>
     refine⟨k+1,A2,c2,l2,?_,by omega,rfl,by simp,hown2,(hbr.alloc hz _).trans hb2⟩;unfold Is;rw[hl2.out,hpre.out,le8_snoc n k hlt,List.append_assoc,le8_cast]
    case measure=>simp[intOf];omega
   ·obtain rfl:k=8:=by omega
    go_wp2
    go_ret
    refine OutB.mk' ?_ hown hbr;rw[hpre.out,hl1.out,hfin.out,List.take_of_length_le (by rw[le8_len];exact Nat.le_refl _),show((f:Int)*8+1).toNat=f*8+1 by omega]
theorem c_fixed(f a:Int)(w:World)(hf:0≤f∧f≤15)(h0:0≤a)(h1:a≤9223372036854775807):Calls Tryz.prog 59 #[.int .i64 f,.int .i64 a] w (OutB w (fixL f.toNat a.toNat)):=by
 obtain⟨n,rfl⟩:=Int.eq_ofNat_of_zero_le h0;obtain⟨m,rfl⟩:=Int.eq_ofNat_of_zero_le hf.1;exact c_fixedN m n w (by omega) (by omega)
theorem fix_byte(f:Int)(hf:0≤f∧f≤15):(f*8+1) % 256=f*8+1:=by omega
theorem c_putFixedN{base:Nat}{A:Option Addr}{c:Nat}{l:List Int}(f n:Nat)(w:World)(ho:OwnB base w A c l)(hbase:base≤w.heap.size)(hl:l.length≤10000000000000)(hf:f≤15)(hn:n≤9223372036854775807):
  Calls Tryz.prog 165 #[.slice A l.length c,.int .i64 f,.int .i64 n] w (AddB base w A (l++fixL f n)):=by
 by_cases h0:n=0
 ·subst h0
  go_enter Tryz.func165,Tryz.ntmps165
  go_wp2
  go_ret
  exact AddB.mk' (by simp[fixL]) ho (gb_refl _ _) (.inl rfl)
 ·have h1:((n:Int) == 0)=false:=by simpa using h0
  have h2:=or_one f (by omega);have h3:=fix_byte f (by omega);have hfin:Is (fixL f n) (((f:Int)*8+1)::le8 n):=by unfold Is fixL;rw[if_neg h0];rfl
  go_enter Tryz.func165,Tryz.ntmps165
  go_wp2_with (at_builtin;refine stop ?_)
  (refine on_ ?_;refine app_u8 rfl (.tmp 11) (.tmp 16) rfl rfl (l2:=[_]) (c2:=1) rfl (ho.alloc _) (bs_one _ _ _) (by first|omega|(simp;omega)) (by first|omega|(simp;omega)) ?_)
  intro l1 A1 c1 w1 hl1 hn1 ho1 hb1 hg1 hat1;have hat:=at_app (w0:=w) hat1 (by simp);have hG1:=gb_trans (World.grownBy_alloc _ _ _) hg1;have hz1:=hG1.size;clear hat1 hg1;have HH:=Is.hid hat;clear hat
  go_wp2
  go_loopw [0,7] (fun v u wr=>∃k:Nat,∃A' c' pre,Is pre (l1++(le8 n).take k)∧k≤8∧v=.slice A' pre.length c'∧u=.int .i64 k∧OwnB base wr A' c' pre∧w.grownBy wr (blkOf A)∧(blkOf A'=blkOf A∨∃k,blkOf A'=some k∧w.heap.size≤k))
   (fun _ u _=>(8-intOf u).toNat)
  case atStart=>exact⟨0,A1,c1,l1,by unfold Is;simp,by omega,rfl,rfl,ho1,hG1,HH.out⟩
  case round=>
   obtain⟨k,A',c',pre,hpre,hk,rfl,rfl,hown,hgr,hat⟩:=hrel;have hz:=hgr.size;have hpl:pre.length≤l.length+9:=by
    have:=congrArg List.length hpre.out;rw[List.length_append,List.length_take,le8_len]at this;have h':=congrArg List.length hl1.out;simp at h';omega
   have HH':=Is.hid hat;clear hat;by_cases hlt:k<8
   ·have hlt':(k:Int)<8:=by omega
    have hw8:IntKind.i64.wrap (8*(k:Int))=8*(k:Int):=IntWalk.i64_in _ (by omega);have hsh:=sh64 n (8*k) (8*(k:Int)) (by omega) (by omega);have hkn:¬ (8*(k:Int))<0:=by omega
    go_wp2_with (at_builtin;refine stop ?_)
    (refine on_ ?_;refine app_u8 rfl (.tmp 22) (.tmp 29) rfl rfl (l2:=[_]) (c2:=1) rfl (hown.alloc _) (bs_one _ _ _) (by first|omega|(simp;omega)) (by first|omega|(simp;omega)) ?_)
    intro l2 A2 c2 w2 hl2 hn2 hown2 hb2 hg2 hat2;have H2:=Is.hid hat2;clear hat2
    go_wp2
    go_roundw
    case rel=>
     have ht:=at_app (w0:=wr) H2.out (by simp);refine⟨k+1,A2,c2,l2,?_,by omega,rfl,by simp,hown2,gb_step hgr HH'.out (gb_trans (World.grownBy_alloc _ _ _) hg2),at_trans HH'.out hz ht⟩;unfold Is;rw[hl2.out,hpre.out,le8_snoc n k hlt,List.append_assoc,le8_cast]
    case measure=>simp[intOf];omega
   ·obtain rfl:k=8:=by omega
    go_wp2
    go_ret
    refine AddB.mk' ?_ hown hgr HH'.out;rw[hpre.out,hl1.out,hfin.out,List.take_of_length_le (by rw[le8_len];exact Nat.le_refl _),List.append_assoc];rfl
theorem c_putFixed{base:Nat}{A:Option Addr}{c:Nat}{l:List Int}(f n:Int)(w:World)(ho:OwnB base w A c l)(hbase:base≤w.heap.size)(hl:l.length≤10000000000000)(hf:0≤f∧f≤15)(hn:0≤n∧n≤9223372036854775807):
  Calls Tryz.prog 165 #[.slice A l.length c,.int .i64 f,.int .i64 n] w (AddB base w A (l++fixL f.toNat n.toNat)):=by
 obtain⟨n,rfl⟩:=Int.eq_ofNat_of_zero_le hn.1;obtain⟨m,rfl⟩:=Int.eq_ofNat_of_zero_le hf.1;exact c_putFixedN m n w ho hbase hl (by omega) (by omega)
theorem c_delimited(A:Option Addr)(c:Nat)(l:List Int)(w:World)(hb:Bs w A l)(hl:l.length≤10000000000000):
  Calls Tryz.prog 162 #[.slice A l.length c] w (OutB w (vi l.length++l)):=by
 go_enter Tryz.func162,Tryz.ntmps162
 go_wp2_with (fail)
 refine(c_putUvarint (l:=[]) _ _ (OwnB.nil _ _) (Nat.le_refl _) (by simp) (by omega) (by omega)).mono ?_;intro e w1 he;obtain⟨l1,A1,c1,hl1,rfl,ho1,hb1⟩:=he.out;have hn1:=vi_len63 l.length (by omega);have hn2:l1.length≤10:=by rw[hl1.out,Int.toNat_natCast];exact hn1
 have hz1:=hb1.size
 go_wp2_with (at_builtin;refine stop ?_)
 (refine on_ ?_;refine app_u8 rfl (.tmp 6) (.tmp 7) rfl rfl rfl ho1 (hb.below hb1) (by first|omega|(simp;omega)) (by first|omega|(simp;omega)) ?_)
 intro l2 A2 c2 w2 hl2 hn2 ho2 hb2 _ _
 go_wp2
 go_ret
 refine OutB.mk' ?_ ho2 (hb1.trans hb2);rw[hl2.out,hl1.out,Int.toNat_natCast]
structure CS where
 fl:Int
 ad:HSl
 sec:Int
 ns:Int
 sg:HSl
def CS.cells(s:CS):List Value:=[.int .u8 s.fl,s.ad.v,.int .i64 s.sec,.int .i32 s.ns,s.sg.v]
structure CS.ok(s:CS)(w:World):Prop where
 ad:s.ad.ok w
 sg:s.sg.ok w
theorem CS.ok.after{s:CS}{w w':World}(h:s.ok w)(hb:Below w.heap.size w w'):s.ok w':=⟨h.ad.after hb,h.sg.after hb⟩
structure Cm where
 ht:Int
 rd:Int
 b:HSl
 bt:Int
 bp:HSl
 A:Option Addr
 c:Nat
 S:List CS
def Cm.cells(C:Cm):Array Value:=#[.int .i64 C.ht,.int .i32 C.rd,C.b.v,.int .u32 C.bt,C.bp.v,.slice C.A C.S.length C.c,.slice none 0 0]
def csRows(S:List CS):List (List Value):=S.map CS.cells
structure Cm.at(C:Cm)(w:World)(g:Nat):Prop where
 blk:Blk w g 121 C.cells
 b:C.b.ok w
 bp:C.bp.ok w
 rows:RowsAt w C.A 5 (csRows C.S)
 fm:Fm C.A C.S.length C.c
 cap:C.S.length≤C.c
 ok:∀s∈C.S,s.ok w
theorem Cm.at.after{C:Cm}{w w':World}{g:Nat}(h:C.at w g)(hb:Below w.heap.size w w'):C.at w' g:=⟨h.blk.after hb,h.b.after hb,h.bp.after hb,h.rows.after hb,h.fm,h.cap,fun s hs=>(h.ok s hs).after hb⟩
def cvL(ht rd:Int)(s:List Int)(p:Int)(r:List Int)(sec ns:Int)(ch:ByteArray):List Int:=
 numL 1 2++fixL 2 ht.toNat++fixL 3 rd.toNat++withinL 4 (bidL s p r)++withinL 5 (numL 1 (sec-62135596800).toNat++numL 2 ns.toNat)++someL 6 (bytesOf ch)
def vsbL(ht rd:Int)(s:List Int)(p:Int)(r:List Int)(sec ns:Int)(ch:ByteArray):List Int:=vi (cvL ht rd s p r sec ns ch).length++cvL ht rd s p r sec ns ch
structure Cm.num(C:Cm):Prop where
 ht:0≤C.ht∧C.ht≤9223372036854775807
 rd:0≤C.rd∧C.rd≤2147483647
 bt:0≤C.bt∧C.bt≤4294967295
 b:C.b.l.length=32
 bp:C.bp.l.length=32
 n:C.S.length≤20
end Go.Proofs.YtjhnnjhaklohhaaGreatDoor
