/- A set out of seats. A set of the thin package's seats. The laws' own: a set's power, a set handed back, a set mixed. A set asked: its proposer; one by its address. A validator's bytes, a set's sum. A well-formed commit is found well formed. Regions in any order, with items that are not known to the sign. What is well formed: the package's ValidateBasic of a header. (Printed by gen_valid.py.) A well-formed header with its commit is found well formed. Times of the package: a span later. (The great seat alone.) The new header is looked at. A set and a commit that fit; what is left out and what is counted. -/
import Derived.Test.YtjhnnjhaklohhaaGreatDoorM10
import Derived.Test.YtjhnnjhaklohhaaGreatDoorM1
import Derived.Test.YtjhnnjhaklohhaaGreatDoorM8
import Derived.Test.YtjhnnjhaklohhaaGreatDoorM7
set_option linter.unusedVariables false
set_option linter.unusedSimpArgs false
set_option maxHeartbeats 4000000
set_option maxRecDepth 100000
namespace Go.Proofs.YtjhnnjhaklohhaaGreatDoor
open Go.RowKit
section
variable{P:Program}{ops:Array Oper}{Q:Exit→Act→World→Prop}
theorem tas{o1 o2:Oper}{rest:List Oper}{a:Act}{w:World}{d x sz:Nat}{F F':List (Nat×Value)}{cs cur:Array Value}{T:TypeId}(hs:SzIs a sz)(hd:DfNil a)(zl:LiveAll F a)(h1:∀v∈cs.toList,v.oneCell'=true)
  (h:∀g w',Blk w' g T cs→w.heap.size≤g→Below w.heap.size w w'→∀a',SzIs a' sz→DfNil a'→LiveAll ((d,.pointer (some ⟨g,0,none⟩))::F') a'→wpList P ops Q rest a' w')
  (hg:o1.guard=none:=by exact rfl)(hdst:o1.dst=some d:=by exact rfl)(hlt:d<sz:=by decide)
  (hF:F.filter (fun p=>p.1 != d)=F':=by simp[List.filter];rfl)(ho2:o2.op=.store T (.tmp d) (.tmp x):=by exact rfl)(hx:F.lookup x=some (.agg cs):=by exact rfl)(hdx:(d == x)=false:=by rfl)
  (hop:∀(K:Act→World→Prop) (Q:Exit→Act→World→Prop),K (a.put (some d) (.pointer (some ⟨w.heap.size,0,none⟩))) (w.alloc (.cells cur T))→o1.wp P a w K Q:=by(intro K Q hK;have q:=gA zl;simp only[GetAll]at q;go_simp;exact hK))
  (hg2:o2.guard=none:=by exact rfl)(hdst2:o2.dst=none:=by exact rfl)(hcur:cs.size=cur.size:=by exact rfl)(hi:(P.info? T).map (·.size)=some cs.size:=by kernel_rfl):wpList P ops Q (o1::o2::rest) a w:=
 tk hs hd zl hop (fun a' hs' hd' zl'=>by
  refine tail_op hg2 fun K hK=>?_
  have hy:a'.eval (.tmp x)=.agg cs:=by
   have h3:=sl zl x hx;subst hF;have h4:∀F:List (Nat×Value),F.lookup x=some (.agg cs)→(F.filter (fun p=>p.1 != d)).lookup x=some (.agg cs):=by
    intro F;induction F with
    |nil=>intro h;exact h
    |cons p ps ih=>
     intro h;obtain⟨t,v⟩:=p;rw[List.filter_cons];rw[List.lookup_cons]at h;by_cases e:x == t
     ·rw[e]at h;have e':x=t:=by simpa using e
      subst e';rw[if_pos (by simp only[bne_iff_ne];intro e2;rw[e2]at hdx;simp at hdx),List.lookup_cons,e];exact h
     ·have e0:(x == t)=false:=by simpa using e
      rw[e0]at h;split
      ·rw[List.lookup_cons,e0];exact ih h
      ·exact ih h
   exact sl zl' x (by
    rw[List.lookup_cons];have:(x == d)=false:=by rw[beq_eq_false_iff_ne]at hdx⊢;exact fun e=>hdx e.symm
    rw[this];exact h4 F hx)
  refine op_store_row T (.tmp d) (.tmp x) ho2 w.heap.size zl'.1 cs hy T cur (Blk.new w _ _) hcur hi h1 ?_;rw[setRow_alloc_at _ _ _ _ _ rfl,hdst2];exact hK _ _ (h _ _ (Blk.new w _ _) (Nat.le_refl _) ((Below.refl _ _).alloc (Nat.le_refl _) _) _ hs' hd' zl')) (.inl hg) hdst hlt hF
theorem tb{o:Oper}{rest:List Oper}{a:Act}{w:World}{d sz n c:Nat}{F F':List (Nat×Value)}{cs:Array Value}{T:TypeId}(hs:SzIs a sz)(hd:DfNil a)(zl:LiveAll F a)
  (h:∀g w',Blk w' g T cs→w.heap.size≤g→Below w.heap.size w w'→∀a',SzIs a' sz→DfNil a'→LiveAll ((d,.slice (some ⟨g,0,none⟩) n c)::F') a'→wpList P ops Q rest a' w')
  (hg:GuardOk ops o a:=by first|exact .inl rfl|exact .inr ⟨_,_,_,_,rfl,rfl,rfl,sl zl _⟩)(hdst:o.dst=some d:=by exact rfl)(hlt:d<sz:=by decide)
  (hF:F.filter (fun p=>p.1 != d)=F':=by simp[List.filter];rfl)
  (hop:∀(K:Act→World→Prop) (Q:Exit→Act→World→Prop),K (a.put (some d) (.slice (some ⟨w.heap.size,0,none⟩) n c)) (w.alloc (.cells cs T))→o.wp P a w K Q:=by(intro K Q hK;have q:=gA zl;simp only[GetAll]at q;go_simp;exact hK)):wpList P ops Q (o::rest) a w:=
 tk hs hd zl hop (h _ _ (Blk.new w _ _) (Nat.le_refl _) ((Below.refl _ _).alloc (Nat.le_refl _) _)) hg hdst hlt hF
end
def SpAt(B:Nat)(T1 T:TypeId)(cs:Array Value)(v:Value)(w:World):Prop:=∃(g c p:Nat),v=.slice (some ⟨g,0,none⟩) 1 c∧Blk w g T1 #[.pointer (some ⟨p,0,none⟩)]∧Blk w p T cs∧B≤p
def FItem.sp(t B:Nat)(T1 T:TypeId)(cs:Array Value):FItem:={reads:=[t],fact:=fun vs w=>∃v,vs=[v]∧SpAt B T1 T cs v w,keeps:=fun _ _ _ hb ⟨v,h1,g,c,p,h2,h3,h4,h5⟩=>⟨v,h1,g,c,p,h2,h3.after hb,h4.after hb,h5⟩}
theorem FItem.sp_holds{t B:Nat}{T1 T:TypeId}{cs:Array Value}{a:Act}{w:World}:(FItem.sp t B T1 T cs).holds a w↔SpAt B T1 T cs (a.tmps.getD t undef) w:=by
 constructor
 ·rintro⟨v,h1,h2⟩;injection h1 with h1;have h1:a.tmps.getD t undef=v:=h1;rw[h1];exact h2
 ·exact fun h=>⟨_,rfl,h⟩
theorem bsp{P:Program}{Q:Exit→Act→World→Prop}{F:List (Nat×Value)}{sz:Nat}{W:World}{its:List FItem}{o:Oper}{d t B c:Nat}{cs:Array Value}{T T1:TypeId}(j:Nat)(hj:its[j]?=some (FItem.pb t B T cs):=by exact rfl)(hdst:o.dst=some d:=by exact rfl)(hlt:d<sz:=by decide)(hcj:(deps o).contains j=true:=by kernel_rfl)
  (h:∀(a:Act) (w:World) (p:Nat),a.tmps[t]?.getD undef=.pointer (some ⟨p,0,none⟩)→∀(K:Act→World→Prop) (Q:Exit→Act→World→Prop),K (a.put (some d) (.slice (some ⟨w.heap.size,0,none⟩) 1 c)) (w.alloc (.cells #[.pointer (some ⟨p,0,none⟩)] T1))→o.wp P a w K Q:=by(intro a w p q K Q hK;go_simp;exact hK)):
  Bare P Q F sz W its o (FItem.sp d B T1 T cs):=fun a w hb hs hl hd K hK=>by
 have h0:=dep_get0 hd j hcj;rw[hj]at h0;obtain⟨p,e,hp,hpB⟩:=FItem.pb_holds.1 h0;rw[hdst]at hK;exact h a w p (gd e) K Q (hK _ _ ((Below.refl _ _).alloc (Nat.le_refl _) _) (FItem.sp_holds.2 (by rw[put_eq hs hlt];exact⟨_,_,p,rfl,Blk.new _ _ _,hp.alloc _,hpB⟩)))
theorem OwnR.gb{e:TypeId}{k base c g:Nat}{w w':World}{A:Option Addr}{R:List (List Value)}(h:OwnR e k base w A c R)(hb:GB w w' g)(hn:blkOf A≠some g):OwnR e k base w' A c R:=by
 refine⟨h.1,World.ownsRow.kept h.2 hb ?_⟩;rw[ownBlock_slice]
 cases hA:blkOf A with
 |none=>exact .inl rfl
 |some q=>exact .inr (by rw[← hA];exact hn)
structure So(w u:World)(R:List Nat)(V:List Vl)(B:Option Addr)(d:Nat):Prop where
 below:Below w.heap.size w u
 own:OwnR 155 1 w.heap.size u B d (ptrRows R)
 pv:∀(i p:Nat) (v:Vl),R[i]?=some p→V[i]?=some v→Blk u p 163 v.cells∧w.heap.size≤p
theorem So.gb{w u u':World}{R:List Nat}{V:List Vl}{B:Option Addr}{d g:Nat}{cs:Array Value}(h:So w u R V B d)(hg:Blk u g 157 cs)(hge:w.heap.size≤g)(k:GB u u' g):So w u' R V B d:=
 ⟨GB.below2 h.below k hge,h.own.gb k (h.own.ne hg (by decide)),fun i p v h1 h2=>⟨(h.pv i p v h1 h2).1.gbfar k (fun e=>by
  have h3:=(h.pv i p v h1 h2).1;subst e;unfold Blk at h3 hg;rw[h3]at hg;injection hg with h4;injection h4 with _ h4;exact absurd h4 (by decide)),(h.pv i p v h1 h2).2⟩⟩
theorem So.after{w u u':World}{R:List Nat}{V:List Vl}{B:Option Addr}{d:Nat}(h:So w u R V B d)(k:Below u.heap.size u u'):So w u' R V B d:=
 ⟨bz_then h.below k,h.own.after k,fun i p v h1 h2=>⟨(h.pv i p v h1 h2).1.after k,(h.pv i p v h1 h2).2⟩⟩
theorem So.vin{w u:World}{R:List Nat}{V:List Vl}{B:Option Addr}{d:Nat}(h:So w u R V B d)(hl:R.length=V.length)(hok:∀v∈V,v.ad.ok w∧v.ky.ok w∧v.q=0):Vin R V B u:=
 ⟨hl,h.own.rows,fun i p v h1 h2=>⟨(h.pv i p v h1 h2).1,(hok v (List.mem_of_getElem? h2)).1.after h.below,(hok v (List.mem_of_getElem? h2)).2.1.after h.below⟩⟩
def Vl.seat(v:Vl):List Value:=[v.ad.v,v.ky.v,.int .i64 v.p,.int .i64 v.q]
theorem Vl.seat_one(v:Vl):∀u∈v.seat.toArray.toList,u.oneCell'=true:=by
 intro u hu;simp only[Vl.seat,HSl.v,List.mem_cons,List.not_mem_nil,or_false]at hu;rcases hu with rfl|rfl|rfl|rfl <;> rfl
def vSeats(V:List Vl):List (List Value):=V.map Vl.seat
theorem c_SetOf(V:List Vl)(A:Option Addr)(c:Nat)(w:World)(hrows:RowsAt w A 4 (vSeats V))(hok:∀v∈V,v.ad.ok w∧v.ky.ok w∧v.q=0)(hnd:(V.map fun v=>v.ad.l).Nodup)(h0:0<V.length)(hn:V.length≤1000):
  Calls Tryz.prog 55 #[.slice A V.length c] w fun e w'=>∃(S:Vs) (g:Nat),e=.returned (.pointer (some ⟨g,0,none⟩))∧Blk w' g 157 S.cells∧S.in_ w'∧S.V=V∧S.tot=0∧w.heap.size≤g∧(∀p∈S.P,w.heap.size≤p)∧(∀b,blkOf S.A=some b→w.heap.size≤b∧b≠g)∧Below w.heap.size w w':=by
 obtain⟨n,hN⟩:∃n,Is V.length n:=is_self _;rw[hN.out]at h0 hn⊢;refine en (sz:=46) rfl rfl rfl fun a hs hd zl=>?_;have hB:=bz_refl w
 refine wW ?_;clear hs hd zl;intro a hs hd zl;refine ta hs hd zl ?_;intro g u hg hge hb;clear hs hd zl;intro a hs hd zl;replace hB:=bz_then hB hb;(try clear hup);have hup:=bup hB;clear hb;refine wW ?_;clear hs hd zl;intro a hs hd zl;refine wp_loop (fun a u=>∃(k:Nat) (R:List Nat) (B:Option Addr) (d:Nat),SzIs a 46∧DfNil a∧LiveAll [(3,.pointer (some ⟨g,0,none⟩)),(8,.slice A n c),(9,.int .i64 ((n:Nat):Int)),(10,.int .i64 ((k:Nat):Int))] a∧k≤n∧R.length=k∧Below w.heap.size w u∧Blk u g 157 (vsCells B R.length d none 0 false)∧OwnR 155 1 w.heap.size u B d (ptrRows R)∧(∀(i p:Nat) (v:Vl),R[i]?=some p→V[i]?=some v→Blk u p 163 v.cells∧w.heap.size≤p))
  (fun a _=>n-(intOf (a.tmps.getD 10 undef)).toNat) ⟨0,[],none,0,hs,hd,ks zl,Nat.zero_le _,rfl,hB,hg,OwnR.nil _ _ _ _,(fun i p v h=>by simp at h)⟩ ?_
 clear hs hd zl hB hup hg u;rintro a u ⟨k,R,B,d,hs,hd,zl,hk,hR,hB,hg,hown,hpv⟩;have hup:=bup hB;have hm:(intOf (a.tmps.getD 10 undef)).toNat=k:=by rw[sl zl 10];simp[intOf]
 rw[hm];clear hm;by_cases hlt:k<n
 ·have e1:decide (k<n)=true:=decide_eq_true hlt;have ew:IntKind.i64.wrap ((k:Int)+1)=((k+1:Nat):Int):=by rw[IntWalk.i64_in _ (by omega)];omega
  obtain⟨v,hVk⟩:∃v,V[k]?=some v:=⟨V[k]'(by rw[hN.out];exact hlt),List.getElem?_eq_getElem _⟩;have hrow:=(hrows.after hB).at_ (by unfold vSeats;rw[List.length_map,hN.out];exact h0);obtain⟨b,o,eA,hb0,hcs⟩:=hrow;have hck:=hcs k v.seat (by unfold vSeats;rw[List.getElem?_map,hVk];rfl);clear hcs;rw[eA]at zl;have HA:=Is.hid eA;have HV:=Is.hid hVk;have HR:=Is.hid hR;clear eA hVk hR;refine wW ?_;clear hs hd zl;intro a hs hd zl;refine tk hs hd zl (fun K Q hK=>op_load_cells 131 (.tmp 12) rfl b _ (sl zl 12) v.seat _ hck.2 rfl rfl (by kernel_rfl) hK) ?_;clear hs hd zl;intro a hs hd zl;clear hck;have hgl:=hg.lt;have hob:=fun h=>hown.ne hg h
  refine tas hs hd zl v.seat_one ?_;intro g5 u5 hg5 hge5 hb;have HGE:=Nat.le_trans hB.size hge5;replace hg:=hg.after hb;replace hown:=hown.after hb;replace hpv:=fun(i p:Nat) (v:Vl) h1 h2=>(⟨(hpv i p v h1 h2).1.after hb,(hpv i p v h1 h2).2⟩:_∧_)
  clear hs hd zl;intro a hs hd zl;replace hB:=bz_then hB hb;(try clear hup);have hup:=bup hB;clear hb;have c0:u5.cell? ⟨g,0,none⟩=some (.slice B R.length d):=hg.cell 0;have d0:u5.cell? ⟨g5,0,none⟩=some (.slice v.ad.A v.ad.l.length v.ad.c):=hg5.cell 0;have d1:u5.cell? ⟨g5,1,none⟩=some (.slice v.ky.A v.ky.l.length v.ky.c):=hg5.cell 1;have d2:u5.cell? ⟨g5,2,none⟩=some (.int .i64 v.p):=hg5.cell 2;have d3:u5.cell? ⟨g5,3,none⟩=some (.int .i64 v.q):=hg5.cell 3;have l1:=hg.lt;have l2:=hg5.lt;have vOne:∀u∈v.cells.toList,u.oneCell'=true:=by
   intro u hu;simp only[Vl.cells,HSl.v,List.mem_cons,List.not_mem_nil,or_false]at hu;rcases hu with rfl|rfl|rfl|rfl <;> rfl
  refine fxf 0 [.inl (14,_),.inl (15,_),.inl (16,_),.inl (17,_),.inl (18,_),.inl (19,_),.inl (20,_),.inl (21,_),.inl (22,_),.inl (23,_),.inl (24,_),.inl (25,_),.inl (26,_),.inl (27,_),.inl (28,_),.inl (29,_),.inl (30,_),.inl (31,_),.inr (.pb 32 u5.heap.size 163 v.cells),.inr (.sp 33 u5.heap.size 155 163 v.cells)] 20 hs hd zl
   (by(simp only[List.map_cons,List.map_nil,itS];(repeat' first|exact trivial|refine And.intro (sP bo) ?_|refine And.intro (sP (ba (Nat.le_refl _))) ?_|refine And.intro (sP (bsp 18)) ?_))) ?_
  clear hs hd zl;intro a u hb hs hd zl hh;have hbo:=hb;replace hg:=hg.after hb;replace hown:=hown.after hb;replace hpv:=fun(i p:Nat) (v:Vl) h1 h2=>(⟨(hpv i p v h1 h2).1.after hb,(hpv i p v h1 h2).2⟩:_∧_)
  replace hB:=bz_then hB hb;(try clear hup);have hup:=bup hB;clear hb;obtain⟨-,h33,-⟩:=hh;obtain⟨gs,cc,p,e33,hgs,hpb,hpB⟩:=FItem.sp_holds.1 h33;replace zl:=kp [3,8,9,10,14,18] zl;replace zl:LiveAll ((33,_)::_) a:=⟨e33,zl⟩;have hpw:w.heap.size≤p:=Nat.le_trans (Nat.le_trans HGE (Nat.le_of_lt l2)) hpB;clear c0 d0 d1 d2 d3 e33 h33 l1 l2 hbo vOne;refine tw (fun v1 u1=>∃B1 d1,v1=.slice B1 (R++[p]).length d1∧OwnR 155 1 w.heap.size u1 B1 d1 (ptrRows (R++[p]))∧Below w.heap.size u u1∧u.grownBy u1 (blkOf B)) hs hd zl (fun K Q hK=>
   op_app_row (.tmp 18) (.tmp 33) rfl Tryz.underlying154 (z:=.pointer none) (k:=1) (bytes:=8) (by kernel_rfl) rfl (by decide) (R:=ptrRows R) (r:=[.pointer (some ⟨p,0,none⟩)]) (by rw[ptrRows_length];exact sl zl 18) (sl zl 33) hown hgs rfl (fun u hu=>by rw[List.mem_singleton.1 hu];rfl) (by rw[ptrRows_length,HR.out];omega) (by decide) hB.size
    (fun B1 d1 u1 h1 h2 h3 _=>by
     have e:ptrRows R++[[.pointer (some ⟨p,0,none⟩)]]=ptrRows (R++[p]):=by simp[ptrRows]
     rw[e]at h1⊢;rw[ptrRows_length];exact hK _ _ ⟨B1,d1,rfl,h1,h2,h3⟩)) ?_
  rintro _ u1 ⟨B1,d1,rfl,hown1,hb1,hgb⟩;clear hs hd zl;intro a hs hd zl;have hne:=hown.ne hg (by decide);have hg1:Blk u1 g _ _:=gb_blk hgb hg (fun e=>hne e.symm);have hp1:Blk u1 p _ _:=gb_blk hgb hpb (fun e=>hown.ne hpb (by decide) e.symm);replace hpv:=fun(i p:Nat) (v:Vl) h1 h2=>(⟨gb_blk hgb (hpv i p v h1 h2).1 (fun e=>hown.ne (hpv i p v h1 h2).1 (by decide) e.symm),(hpv i p v h1 h2).2⟩:_∧_)
  replace hB:Below w.heap.size w u1:=hB.trans hb1;clear hown hg hpb hne hgb hb1 hgs hup;have hup:=bup hB;have c0:u1.cell? ⟨g,0,none⟩=some (.slice B R.length d):=hg1.cell 0;have f0:=hg1.free 0;refine wW ?_;clear hs hd zl;intro a hs hd zl;refine ts hs hd zl ?_;clear hs hd zl;intro a hs hd zl;have e2:(R++[p]).length=R.length+1:=by simp
  have hg2:Blk (u1.setCell ⟨g,0,none⟩ (.slice B1 (R.length+1) d1)) g 157 (vsCells B1 (R++[p]).length d1 none 0 false):=by rw[e2];exact hg1.set_ 0 _
  have hown2:=OwnR.setCell (o:=0) (u:=.slice B1 (R.length+1) d1) hown1 hg1 (by decide);have hgp:∀q cs,Blk u1 q 163 cs→q≠g:=fun q cs h e=>by
   subst e;unfold Blk at h hg1;rw[h]at hg1;injection hg1 with h1;injection h1 with _ h1;exact absurd h1 (by decide)
  have hpv2:∀(i q:Nat) (x:Vl),(R++[p])[i]?=some q→V[i]?=some x→Blk (u1.setCell ⟨g,0,none⟩ (.slice B1 (R.length+1) d1)) q 163 x.cells∧w.heap.size≤q:=fun i q x h1 h2=>by
   rcases Nat.lt_or_ge i R.length with hi|hi
   ·rw[List.getElem?_append_left hi]at h1;obtain⟨h3,h4⟩:=hpv i q x h1 h2;exact⟨h3.far (hgp _ _ h3) _,h4⟩
   ·obtain rfl:i=R.length:=by
     have:=(List.getElem?_eq_some_iff.1 h1).1;rw[e2]at this;omega
    rw[List.getElem?_append_right (Nat.le_refl _),Nat.sub_self]at h1;injection h1 with h1;rw[HR.out,HV.out]at h2;injection h2 with h2;subst h1 h2;exact⟨hp1.far (hgp _ _ hp1) _,hpw⟩
  have hB2:Below w.heap.size w (u1.setCell ⟨g,0,none⟩ (.slice B1 (R.length+1) d1)):=hB.setCell (p:=⟨g,0,none⟩) hge _;generalize u1.setCell ⟨g,0,none⟩ (.slice B1 (R.length+1) d1)=u2 at hg2 hown2 hpv2 hB2⊢;clear hpv hgp hp1 hg1 hown1 hup c0 f0 hB;refine wW ?_;clear hs hd zl;intro a hs hd zl;rw[← HA.out,← e2]at zl;refine⟨⟨k+1,R++[p],B1,d1,hs,hd,ks zl,hlt,by rw[e2,HR.out],hB2,hg2,hown2,hpv2⟩,?_⟩;rw[sl zl 10];simp[intOf];omega
 ·obtain rfl:k=n:=by omega
  have e1:decide (k<k)=false:=decide_eq_false (by omega);refine wW ?_;clear hs hd zl;intro a hs hd zl;refine wp_exit ?_;(repeat refine then_exit ?_);refine inBlock_exit ?_;clear e1 hlt hup;have hso:So w u R V B d:=⟨hB,hown,hpv⟩;have hlen:R.length=V.length:=hR.trans hN.out.symm;clear hown hpv hB;refine wW ?_;clear hs hd zl;intro a hs hd zl;refine tc (c_allk R V B d g none 0 false u hg (hso.vin hlen hok) (by omega) (by omega)) hs hd zl ?_;rintro _ u3 ⟨rfl,hg3,hG⟩;refine⟨_,rfl,?_⟩;clear hs hd zl;intro a hs hd zl;replace hso:=hso.gb hg hge hG;clear hG hg;have c0:u3.cell? ⟨g,0,none⟩=some (.slice B R.length d):=hg3.cell 0;refine wW ?_;clear hs hd zl;intro a hs hd zl;refine tc (c_find R V B d g u3 c0 (hso.vin hlen hok) (fun v hv=>(hok v hv).2.2) hnd (by omega) (by omega)) hs hd zl ?_;rintro _ u4 ⟨⟨p,hpR,rfl⟩,hb⟩;refine⟨_,rfl,?_⟩;clear hs hd zl;intro a hs hd zl;replace hso:=hso.after hb;replace hg3:=hg3.after hb;clear c0 hb;have c1:u4.cell? ⟨g,1,none⟩=some (.pointer none):=hg3.cell 1;have f1:=hg3.free 1;refine wW ?_;clear hs hd zl;intro a hs hd zl;refine ts hs hd zl ?_;clear hs hd zl;intro a hs hd zl;have hG:=(GB.refl u4 g).set 1 (.pointer (some ⟨p,0,none⟩));have hso5:=hso.gb hg3 hge hG;have hg5:=hg3.set_ 1 (.pointer (some ⟨p,0,none⟩));clear c1 f1 hG;generalize u4.setCell ⟨g,1,none⟩ (.pointer (some ⟨p,0,none⟩))=u5 at hso5 hg5⊢;refine wW ?_;clear hs hd zl;intro a hs hd zl;refine wp_ret ?_;(repeat first|refine then_ret ?_|refine inBlock_ret ?_);have hv5:=hso5.vin hlen hok;refine end_tmp rfl hd (sl zl 2) ⟨⟨R,V,B,d,p,0,true⟩,g,rfl,hg5,⟨hv5.len,hv5.rows,hv5.vl,hpR⟩,rfl,rfl,hge,fun q hq=>?_,fun b hb=>?_,hso5.below⟩
  ·obtain⟨i,hi⟩:=List.getElem?_of_mem hq;have hi':i<V.length:=by rw[← hlen];exact(List.getElem?_eq_some_iff.1 hi).1
   exact(hso5.pv i q _ hi (List.getElem?_eq_getElem hi')).2
  ·rcases hso5.own.form with⟨h1,-,-⟩|⟨y,cur,h1,h2,-,h3,-⟩
   ·have hb:blkOf B=some b:=hb;rw[h1]at hb
    cases hb
   ·have hb:blkOf B=some b:=hb;have hn5:=hso5.own.ne hg5 (by decide);rw[hb]at hn5;rw[h1]at hb;injection hb with hb;have hb:y=b:=hb;subst hb;exact⟨h2,fun e=>hn5 (by rw[e])⟩
structure Hb(s:HSl)(w:World):Prop where
 ok:s.ok w
 blk:∃(g:Nat) (cur:Array Value) (fr:Nat×Nat),s.A=some ⟨g,0,none⟩∧w.heap[g]?=some (.cells cur 5 fr)
theorem Hb.ne{s:HSl}{w:World}(h:Hb s w){y:Nat}{T:TypeId}{cs:Array Value}(hy:Blk w y T cs)(hT:T≠5):∀k,blkOf s.A=some k→k≠y:=fun k hk e=>by
 obtain⟨g,cur,fr,hA,hg⟩:=h.blk;rw[hA]at hk;injection hk with hk;have hk:g=k:=hk;subst hk e;unfold Blk at hy;rw[hy]at hg;injection hg with h1;injection h1 with _ h1;exact hT h1
theorem Hb.gb{s:HSl}{w w':World}{y:Option Nat}(h:Hb s w)(k:w.grownBy w' y)(hn:∀g,y=some g→∃T cs,Blk w g T cs∧T≠5):Hb s w':=by
 have hne:∀k,blkOf s.A=some k→some k≠y:=fun k hk e=>by
  obtain⟨T,cs,h1,h2⟩:=hn k e.symm;exact h.ne h1 h2 k hk rfl
 obtain⟨g,cur,fr,hA,hg⟩:=h.blk;have hgl:g<w.heap.size:=h.ok.blk g (by rw[hA];rfl);refine⟨⟨fun i hi=>?_,h.ok.fm,h.ok.cap,h.ok.b8,h.ok.len,fun k' hk'=>Nat.lt_of_lt_of_le (h.ok.blk k' hk') k.size⟩,g,cur,fr,hA,(k.block g hgl (hne g (by rw[hA];rfl))).trans hg⟩;obtain⟨b,o,e,hb,hc⟩:=h.ok.bs i hi;exact⟨b,o,e,Nat.lt_of_lt_of_le hb k.size,(gb_cell k hb (hne b (by rw[e];rfl))).trans hc⟩
theorem Hb.after{s:HSl}{w w':World}(h:Hb s w)(hb:Below w.heap.size w w'):Hb s w':=h.gb (y:=none) (gb_below hb none) (fun g e=>by cases e)
theorem OwnR.gbn{e:TypeId}{k base c:Nat}{w:World}{A:Option Addr}{R:List (List Value)}(h:OwnR e k base w A c R)(he:e≠5):∀g,blkOf A=some g→∃T cs,Blk w g T cs∧T≠5:=fun g hg=>by
 rcases h.form with⟨rfl,-,-⟩|⟨y,cur,rfl,-,-,h3,-⟩
 ·cases hg
 ·injection hg with hg;have hg:y=g:=hg;subst hg;exact⟨_,_,h3,he⟩
section
variable{ops:Array Oper}{Q:Exit→Act→World→Prop}
theorem tcv{o:Oper}{rest:List Oper}{a:Act}{w:World}{d x sz:Nat}{F F':List (Nat×Value)}{s:ByteArray}(hs:SzIs a sz)(hd:DfNil a)(zl:LiveAll F a)(hsz:s.size≤2200000000)
  (h:∀(b:HSl) w',Is b.l (bytesOf s)→Hb b w'→Below w.heap.size w w'→∀a',SzIs a' sz→DfNil a'→LiveAll ((d,.slice b.A b.l.length b.c)::F') a'→wpList Tryz.prog ops Q rest a' w')
  (hop:o.op=.convert 9 32 (.tmp x):=by exact rfl)(hx:F.lookup x=some (.string s):=by exact rfl)(hg:o.guard=none:=by exact rfl)(hdst:o.dst=some d:=by exact rfl)(hlt:d<sz:=by decide)
  (hF:F.filter (fun p=>p.1 != d)=F':=by simp[List.filter];rfl):wpList Tryz.prog ops Q (o::rest) a w:=by
 refine tw (F':=F') (fun v w'=>v=.slice (some ⟨w.heap.size,0,none⟩) s.size (grownCap w s.size 0 5)∧w'=Lib.bytesWorld w 5 s) hs hd zl (fun K Q hK=>?_) (fun v w' hR a' h1 h2 h3=>?_) (.inl hg) hdst hlt hF
 ·have kc:=Lib.run_convert_string_bytes (P:=Tryz.prog) w 9 32 5 s Tryz.underlying9 Tryz.underlying32 Tryz.underlying5;have hv:a.eval (.tmp x)=.string s:=sl zl x hx;unfold Oper.wp execOp;simp only[hop,hv,Sem.run_bind,Sem.run_pure,Result.andThen_ok,kc];rw[Oper.upon_value,hdst];exact hK _ _ ⟨rfl,rfl⟩
 ·obtain⟨rfl,rfl⟩:=hR;have he:(⟨some ⟨w.heap.size,0,none⟩,grownCap w s.size 0 5,bytesOf s⟩:HSl).v=.slice (some ⟨w.heap.size,0,none⟩) s.size (grownCap w s.size 0 5):=by unfold HSl.v;rw[bytesOf_length]
  rw[← he]at h3;refine h ⟨some ⟨w.heap.size,0,none⟩,grownCap w s.size 0 5,bytesOf s⟩ _ rfl ⟨⟨bs_conv w _ s,.inr ⟨_,_,rfl⟩,by rw[bytesOf_length];exact grownCap_ge _ _ _ _,bytesOf_bytes s,by rw[bytesOf_length];exact hsz,fun k hk=>?_⟩,_,_,_,rfl,Lib.bytesWorld_at_new _ _ _⟩ (bz_bytes (bz_refl _) _ _) a' h1 h2 h3;injection hk with hk;have hk:w.heap.size=k:=hk;rw[Lib.bytesWorld_size];omega
end
structure VlOf(s:Seat)(v:Vl):Prop where
 ad:v.ad.l=bytesOf s.a
 ky:v.ky.l=bytesOf s.k
 p:v.p=s.p
 q:v.q=s.q
structure VlsOf(S:List Seat)(V:List Vl):Prop where
 len:V.length=S.length
 of_:∀(i:Nat) (s:Seat) (v:Vl),S[i]?=some s→V[i]?=some v→VlOf s v
theorem VlsOf.snoc{S:List Seat}{V:List Vl}{k:Nat}{s:Seat}{v:Vl}(h:VlsOf (S.take k) V)(hk:S[k]?=some s)(hv:VlOf s v):VlsOf (S.take (k+1)) (V++[v]):=by
 have hkl:k<S.length:=(List.getElem?_eq_some_iff.1 hk).1;have hl:V.length=k:=by rw[h.len,List.length_take];omega
 refine⟨by rw[List.length_append,hl,List.length_take];simp;omega,fun i s' v' h1 h2=>?_⟩;rcases Nat.lt_or_ge i k with hi|hi
 ·rw[List.getElem?_append_left (by omega)]at h2;rw[List.getElem?_take_of_lt (by omega)]at h1;exact h.of_ i s' v' (by rw[List.getElem?_take_of_lt hi];exact h1) h2
 ·have h3:=(List.getElem?_eq_some_iff.1 h2).1;rw[List.length_append,hl]at h3;obtain rfl:i=k:=by simp at h3;omega
  rw[List.getElem?_take_of_lt (by omega),hk]at h1;rw[List.getElem?_append_right (by omega),hl,Nat.sub_self]at h2;injection h1 with h1;injection h2 with h2;subst h1 h2;exact hv
theorem bytesOf_inj{a b:ByteArray}(h:bytesOf a=bytesOf b):a=b:=by
 unfold bytesOf at h;exact ByteArray.ext (Array.ext' ((List.map_inj_right (fun x y e=>UInt8.toNat_inj.1 (Int.ofNat.inj e))).1 h))
theorem VlsOf.nodup{S:List Seat}{V:List Vl}(h:VlsOf S V)(hn:(S.map Seat.a).Nodup):(V.map fun v=>v.ad.l).Nodup:=by
 have e:(V.map fun v=>v.ad.l)=S.map fun s=>bytesOf s.a:=by
  apply List.ext_getElem?;intro i;rw[List.getElem?_map,List.getElem?_map];rcases Nat.lt_or_ge i S.length with hi|hi
  ·have hi':i<V.length:=by rw[h.len];exact hi
   rw[List.getElem?_eq_getElem hi,List.getElem?_eq_getElem hi'];exact congrArg some (h.of_ i _ _ (List.getElem?_eq_getElem hi) (List.getElem?_eq_getElem hi')).ad
  ·rw[List.getElem?_eq_none hi,List.getElem?_eq_none (by rw[h.len];exact hi)];rfl
 rw[e,show(S.map fun s=>bytesOf s.a)=(S.map Seat.a).map bytesOf from by rw[List.map_map];rfl];exact List.Pairwise.map _ (fun a b h e=>h (bytesOf_inj e)) hn
theorem c_iset(S:List Seat)(A:Option Addr)(c:Nat)(w:World)(hS:SeatsAt w A S)(hG:Good S)(hnd:(S.map Seat.a).Nodup)(h0:0<S.length)(hn:S.length≤1000):
  Calls Tryz.prog 31 #[.slice A S.length c] w fun e w'=>∃(T:Vs) (g:Nat),e=.returned (.pointer (some ⟨g,0,none⟩))∧Blk w' g 157 T.cells∧T.in_ w'∧VlsOf S T.V∧T.tot=0∧w.heap.size≤g∧(∀p∈T.P,w.heap.size≤p)∧(∀b,blkOf T.A=some b→w.heap.size≤b∧b≠g)∧Below w.heap.size w w':=by
 obtain⟨n,hN⟩:∃n,Is S.length n:=is_self _;rw[hN.out]at h0 hn⊢;refine en (sz:=29) rfl rfl rfl fun a hs hd zl=>?_;have hB:=bz_refl w
 refine wW ?_;clear hs hd zl;intro a hs hd zl;refine wp_loop (fun a u=>∃(k:Nat) (V:List Vl) (B:Option Addr) (d:Nat),SzIs a 29∧DfNil a∧LiveAll [(3,.slice B V.length d),(6,.slice A n c),(7,.int .i64 ((n:Nat):Int)),(8,.int .i64 ((k:Nat):Int))] a∧k≤n∧VlsOf (S.take k) V∧Below w.heap.size w u∧OwnR 131 4 w.heap.size u B d (vSeats V)∧∀v∈V,Hb v.ad u∧Hb v.ky u)
  (fun a _=>n-(intOf (a.tmps.getD 8 undef)).toNat) ⟨0,[],none,0,hs,hd,ks zl,Nat.zero_le _,⟨rfl,fun i s v h=>by simp at h⟩,hB,OwnR.nil _ _ _ _,fun v h=>by simp at h⟩ ?_
 clear hs hd zl hB;rintro a u ⟨k,V,B,d,hs,hd,zl,hk,hV,hB,hown,hpv⟩;have hm:(intOf (a.tmps.getD 8 undef)).toNat=k:=by rw[sl zl 8];simp[intOf]
 rw[hm];clear hm;by_cases hlt:k<n
 ·have e1:decide (k<n)=true:=decide_eq_true hlt;have ew:IntKind.i64.wrap ((k:Int)+1)=((k+1:Nat):Int):=by rw[IntWalk.i64_in _ (by omega)];omega
  obtain⟨s,hSk⟩:∃s,S[k]?=some s:=⟨S[k]'(by rw[hN.out];exact hlt),List.getElem?_eq_getElem _⟩;have hsg:=hG s (List.mem_of_getElem? hSk);obtain⟨b,o,eA,hb0,hcs⟩:=RowsAt.at_ (hS.after hB) (by unfold seatRows;rw[List.length_map,hN.out];exact h0);have hck:=hcs k s.cells (by unfold seatRows;rw[List.getElem?_map,hSk];rfl);clear hcs;rw[eA]at zl;have HA:=Is.hid eA;have HS:=Is.hid hSk;clear eA hSk;refine wW ?_;clear hs hd zl;intro a hs hd zl;refine tk hs hd zl (fun K Q hK=>op_load_cells 63 (.tmp 10) rfl b _ (sl zl 10) s.cells _ hck.2 rfl rfl (by kernel_rfl) hK) ?_;clear hs hd zl;intro a hs hd zl;clear hck;refine tas hs hd zl (seat_one s) ?_;intro g u hg hge hb;clear hs hd zl;intro a hs hd zl;replace hown:=hown.after hb;replace hpv:=fun v hv=>(⟨(hpv v hv).1.after hb,(hpv v hv).2.after hb⟩:_∧_)
  replace hB:=bz_then hB hb;clear hb hb0;have d0:u.cell? ⟨g,0,none⟩=some (.string s.a):=hg.cell 0;have d1:u.cell? ⟨g,1,none⟩=some (.string s.k):=hg.cell 1;refine wW ?_;clear hs hd zl;intro a hs hd zl;refine tcv hs hd zl (s:=s.a) (by rw[hsg.a];omega) ?_;intro ad u hadl had hb;clear hs hd zl;intro a hs hd zl;replace hown:=hown.after hb;replace hpv:=fun v hv=>(⟨(hpv v hv).1.after hb,(hpv v hv).2.after hb⟩:_∧_)
  replace hB:=bz_then hB hb;replace hg:=hg.after hb;clear hb d0 d1;have d1:u.cell? ⟨g,1,none⟩=some (.string s.k):=hg.cell 1;refine wW ?_;clear hs hd zl;intro a hs hd zl;refine tcv hs hd zl (s:=s.k) (by have:=hsg.k;omega) ?_;intro ky u hkyl hky hb;clear hs hd zl;intro a hs hd zl;replace hown:=hown.after hb;replace hpv:=fun v hv=>(⟨(hpv v hv).1.after hb,(hpv v hv).2.after hb⟩:_∧_)
  replace hB:=bz_then hB hb;replace hg:=hg.after hb;replace had:=had.after hb;clear hb d1;have d2:u.cell? ⟨g,2,none⟩=some (.int .i64 s.p):=hg.cell 2;have d3:u.cell? ⟨g,3,none⟩=some (.int .i64 s.q):=hg.cell 3;refine wW ?_;clear hs hd zl;intro a hs hd zl;refine tb hs hd zl ?_;intro gs u hgs hgse hb;clear hs hd zl;intro a hs hd zl;replace hown:=hown.after hb;replace hpv:=fun v hv=>(⟨(hpv v hv).1.after hb,(hpv v hv).2.after hb⟩:_∧_)
  replace hB:=bz_then hB hb;replace had:=had.after hb;replace hky:=hky.after hb;clear hb d2 d3;replace zl:=kp [3,6,7,8,12,24] zl;have hlV:V.length=k:=by rw[hV.len,List.length_take,hN.out];omega
  refine tw (fun v1 u1=>∃B1 d1,v1=.slice B1 (V++[(⟨ad,ky,s.p,s.q⟩:Vl)]).length d1∧OwnR 131 4 w.heap.size u1 B1 d1 (vSeats (V++[(⟨ad,ky,s.p,s.q⟩:Vl)]))∧Below w.heap.size u u1∧u.grownBy u1 (blkOf B)) hs hd zl (fun K Q hK=>
   op_app_row (.tmp 12) (.tmp 24) rfl Tryz.underlying129 (z:=.agg #[.slice none 0 0,.slice none 0 0,.int .i64 0,.int .i64 0]) (k:=4) (bytes:=64) (by kernel_rfl) rfl (by decide) (R:=vSeats V) (r:=(⟨ad,ky,s.p,s.q⟩:Vl).seat) (by unfold vSeats;rw[List.length_map];exact sl zl 12) (sl zl 24) hown hgs rfl (Vl.seat_one ⟨ad,ky,s.p,s.q⟩) (by unfold vSeats;rw[List.length_map];omega) (by decide) hB.size
    (fun B1 d1 u1 h1 h2 h3 _=>by
     have e:vSeats V++[(⟨ad,ky,s.p,s.q⟩:Vl).seat]=vSeats (V++[(⟨ad,ky,s.p,s.q⟩:Vl)]):=by simp[vSeats]
     rw[e]at h1⊢;rw[show(vSeats (V++[(⟨ad,ky,s.p,s.q⟩:Vl)])).length=(V++[(⟨ad,ky,s.p,s.q⟩:Vl)]).length from List.length_map ..];exact hK _ _ ⟨B1,d1,rfl,h1,h2,h3⟩)) ?_
  rintro _ u1 ⟨B1,d1,rfl,hown1,hb1,hgb⟩;clear hs hd zl;intro a hs hd zl;have hgn:=hown.gbn (by decide);have hpv1:∀v∈V++[(⟨ad,ky,s.p,s.q⟩:Vl)],Hb v.ad u1∧Hb v.ky u1:=fun v hv=>by
   rcases List.mem_append.1 hv with hv|hv
   ·exact⟨(hpv v hv).1.gb hgb hgn,(hpv v hv).2.gb hgb hgn⟩
   ·rw[List.mem_singleton.1 hv];exact⟨had.gb hgb hgn,hky.gb hgb hgn⟩
  replace hB:Below w.heap.size w u1:=hB.trans hb1;have hV1:=hV.snoc HS.out (v:=⟨ad,ky,s.p,s.q⟩) ⟨hadl.out,hkyl.out,rfl,rfl⟩;clear hpv hown hgs hgn hgb hb1 hg hlV;have e2:(V++[(⟨ad,ky,s.p,s.q⟩:Vl)]).length=V.length+1:=by simp
  refine wW ?_;clear hs hd zl;intro a hs hd zl;rw[← HA.out]at zl;try rw[← e2]at zl
  refine⟨⟨k+1,V++[(⟨ad,ky,s.p,s.q⟩:Vl)],B1,d1,hs,hd,ks zl,hlt,hV1,hB,hown1,hpv1⟩,?_⟩;rw[sl zl 8];simp[intOf];omega
 ·obtain rfl:k=n:=by omega
  have e1:decide (k<k)=false:=decide_eq_false (by omega);refine wW ?_;clear hs hd zl;intro a hs hd zl;refine wp_exit ?_;(repeat refine then_exit ?_);refine inBlock_exit ?_;rw[← hN.out,List.take_length]at hV;refine wW ?_;clear hs hd zl;intro a hs hd zl;refine tc (c_SetOf V B d u hown.rows (fun v hv=>⟨(hpv v hv).1.ok,(hpv v hv).2.ok,by
   obtain⟨i,hi⟩:=List.getElem?_of_mem hv;have hi':i<S.length:=by rw[← hV.len];exact(List.getElem?_eq_some_iff.1 hi).1
   rw[(hV.of_ i _ v (List.getElem?_eq_getElem hi') hi).q];exact(hG _ (List.getElem_mem hi')).q⟩) (hV.nodup hnd) (by rw[hV.len,hN.out];exact h0) (by rw[hV.len,hN.out];exact hn)) hs hd zl ?_
  rintro _ u2 ⟨T,g,rfl,hg,hT,hTV,ht0,hge,hP,hA,hb⟩;refine⟨_,rfl,?_⟩;clear hs hd zl;intro a hs hd zl;refine wW ?_;clear hs hd zl;intro a hs hd zl;refine wp_ret ?_;(repeat first|refine then_ret ?_|refine inBlock_ret ?_);have hz:=hB.size;exact end_tmp rfl hd (sl zl 2) ⟨T,g,rfl,hg,hT,by rw[hTV];exact hV,ht0,by omega,fun p hp=>Nat.le_trans hz (hP p hp),fun b hb'=>⟨Nat.le_trans hz (hA b hb').1,(hA b hb').2⟩,bz_then hB hb⟩
theorem total_snoc(S:List Seat)(k:Nat)(s:Seat)(h:S[k]?=some s):total (S.take (k+1))=total (S.take k)+s.p:=by
 unfold total;rw[List.take_add_one,h,List.map_append,List.sum_append];simp
theorem total_le(S:List Seat)(h:Good S):0≤total S∧total S≤1000000*S.length:=by
 induction S with
 |nil=>simp[total]
 |cons v V ih=>
  have h1:=(h v (List.mem_cons_self ..)).p;have h2:=ih fun u hu=>h u (List.mem_cons_of_mem _ hu)
  unfold total at *;simp only[List.map_cons,List.sum_cons,List.length_cons];omega
theorem Good.take{S:List Seat}(h:Good S)(k:Nat):Good (S.take k):=fun s hs=>h s (List.mem_of_mem_take hs)
theorem c_total(S:List Seat)(A:Option Addr)(c:Nat)(w:World)(hS:SeatsAt w A S)(hG:Good S)(hn:S.length≤1000):
  Calls Tryz.prog 16 #[.slice A S.length c] w fun e w'=>e=.returned (.int .i64 (total S))∧Below w.heap.size w w':=by
 obtain⟨n,hN⟩:∃n,Is S.length n:=is_self _;rw[hN.out]at hn⊢;refine en (sz:=18) rfl rfl rfl fun a hs hd zl=>?_;have hB:=bz_refl w
 refine wW ?_;clear hs hd zl;intro a hs hd zl;refine wp_loop (fun a u=>∃(k:Nat),SzIs a 18∧DfNil a∧LiveAll [(3,.int .i64 (total (S.take k))),(6,.slice A n c),(7,.int .i64 ((n:Nat):Int)),(8,.int .i64 ((k:Nat):Int))] a∧k≤n∧Below w.heap.size w u)
  (fun a _=>n-(intOf (a.tmps.getD 8 undef)).toNat) ⟨0,hs,hd,ks zl,Nat.zero_le _,hB⟩ ?_
 clear hs hd zl hB;rintro a u ⟨k,hs,hd,zl,hk,hB⟩;have hup:=bup hB;have hm:(intOf (a.tmps.getD 8 undef)).toNat=k:=by rw[sl zl 8];simp[intOf]
 rw[hm];clear hm;by_cases hlt:k<n
 ·have e1:decide (k<n)=true:=decide_eq_true hlt;have ew:IntKind.i64.wrap ((k:Int)+1)=((k+1:Nat):Int):=by rw[IntWalk.i64_in _ (by omega)];omega
  obtain⟨s,hSk⟩:∃s,S[k]?=some s:=⟨S[k]'(by rw[hN.out];exact hlt),List.getElem?_eq_getElem _⟩;have hsg:=hG s (List.mem_of_getElem? hSk);obtain⟨b,o,eA,hb0,hcs⟩:=(hS.after hB).at_ (by rw[hN.out];omega);have hck:=hcs k s hSk;clear hcs;rw[eA]at zl;have HA:=Is.hid eA;have HS:=Is.hid hSk;clear eA hSk;refine wW ?_;clear hs hd zl;intro a hs hd zl;refine tk hs hd zl (fun K Q hK=>op_load_cells 48 (.tmp 10) rfl b _ (sl zl 10) s.cells _ hck rfl rfl (by kernel_rfl) hK) ?_;clear hs hd zl;intro a hs hd zl;clear hck hb0;refine tas hs hd zl (seat_one s) ?_;intro g u hg hge hb;clear hs hd zl;intro a hs hd zl;replace hB:=bz_then hB hb;(try clear hup);have hup:=bup hB;clear hb;have d2:u.cell? ⟨g,2,none⟩=some (.int .i64 s.p):=hg.cell 2;have ep:IntKind.i64.wrap (total (S.take k)+s.p)=total (S.take (k+1)):=by
   have h1:=total_le _ (hG.take k);have h2:(S.take k).length≤1000:=by rw[List.length_take];omega
   have h3:=hsg.p;rw[total_snoc S k s HS.out,IntWalk.i64_in _ (by omega)]
  refine wW ?_;clear hs hd zl;intro a hs hd zl;rw[← HA.out]at zl;refine⟨⟨k+1,hs,hd,ks zl,hlt,hB⟩,?_⟩;rw[sl zl 8];simp[intOf];omega
 ·obtain rfl:k=n:=by omega
  have e1:decide (k<k)=false:=decide_eq_false (by omega);refine wW ?_;clear hs hd zl;intro a hs hd zl;refine wp_exit ?_;(repeat refine then_exit ?_);refine inBlock_exit ?_;rw[← hN.out,List.take_length]at zl;refine wW ?_;clear hs hd zl;intro a hs hd zl;refine wp_ret ?_;(repeat first|refine then_ret ?_|refine inBlock_ret ?_);exact end_tmp rfl hd (sl zl 2) ⟨rfl,hB⟩
theorem seats_snoc(S:List Seat)(k:Nat)(s:Seat)(h:S[k]?=some s):seatRows (S.take (k+1))=seatRows (S.take k)++[s.cells]:=by
 unfold seatRows;rw[List.take_add_one,h,List.map_append];simp
theorem c_back(S:List Seat)(A:Option Addr)(c:Nat)(w:World)(hS:SeatsAt w A S)(hn:S.length≤1000):
  Calls Tryz.prog 11 #[.slice A S.length c] w fun e w'=>∃A' c',e=.returned (.slice A' S.length c')∧SeatsAt w' A' S∧Below w.heap.size w w':=by
 obtain⟨n,hN⟩:∃n,Is S.length n:=is_self _;rw[hN.out]at hn⊢;refine en (sz:=18) rfl rfl rfl fun a hs hd zl=>?_;have hB:=bz_refl w
 refine wW ?_;clear hs hd zl;intro a hs hd zl;refine wp_loop (fun a u=>∃(k:Nat) (B:Option Addr) (d:Nat),SzIs a 18∧DfNil a∧LiveAll [(3,.slice B k d),(6,.slice A n c),(7,.int .i64 ((n:Nat):Int)),(8,.int .i64 ((k:Nat):Int))] a∧k≤n∧Below w.heap.size w u∧OwnR 63 4 w.heap.size u B d (seatRows (S.take k)))
  (fun a _=>n-(intOf (a.tmps.getD 8 undef)).toNat) ⟨0,none,0,hs,hd,ks zl,Nat.zero_le _,hB,OwnR.nil _ _ _ _⟩ ?_
 clear hs hd zl hB;rintro a u ⟨k,B,d,hs,hd,zl,hk,hB,hown⟩;have hup:=bup hB;have hm:(intOf (a.tmps.getD 8 undef)).toNat=k:=by rw[sl zl 8];simp[intOf]
 rw[hm];clear hm;by_cases hlt:k<n
 ·have e1:decide (k<n)=true:=decide_eq_true hlt;have ew:IntKind.i64.wrap ((k:Int)+1)=((k+1:Nat):Int):=by rw[IntWalk.i64_in _ (by omega)];omega
  obtain⟨s,hSk⟩:∃s,S[k]?=some s:=⟨S[k]'(by rw[hN.out];exact hlt),List.getElem?_eq_getElem _⟩;obtain⟨b,o,eA,hb0,hcs⟩:=(hS.after hB).at_ (by rw[hN.out];omega);have hck:=hcs k s hSk;have hlk:(seatRows (S.take k)).length=k:=by rw[seatRows_length,List.length_take,hN.out];omega
  have HL:=Is.hid hlk;clear hcs hlk;rw[eA]at zl;have HA:=Is.hid eA;have HS:=Is.hid hSk;clear eA hSk;refine wW ?_;clear hs hd zl;intro a hs hd zl;refine tk hs hd zl (fun K Q hK=>op_load_cells 48 (.tmp 10) rfl b _ (sl zl 10) s.cells _ hck rfl rfl (by kernel_rfl) hK) ?_;clear hs hd zl;intro a hs hd zl;clear hck hb0;refine tas hs hd zl (cs:=s.cells.toArray) (seat_one s) ?_;intro g u hg hge hb;clear hs hd zl;intro a hs hd zl;replace hown:=hown.after hb;replace hB:=bz_then hB hb;(try clear hup);have hup:=bup hB;clear hb;refine wW ?_;clear hs hd zl;intro a hs hd zl;refine tk hs hd zl (fun K Q hK=>op_load_row 48 (.tmp 5) rfl g (sl zl 5) _ s.cells.toArray _ hg rfl rfl (by kernel_rfl) hK) ?_;clear hs hd zl;intro a hs hd zl;clear hg;refine tb (cs:=s.cells.toArray) hs hd zl ?_;intro gs u hgs hgse hb;clear hs hd zl;intro a hs hd zl;replace hown:=hown.after hb;replace hB:=bz_then hB hb;(try clear hup);have hup:=bup hB;clear hb;replace zl:=kp [3,6,7,8,12,14] zl;refine tw (fun v1 u1=>∃B1 d1,v1=.slice B1 (k+1) d1∧OwnR 63 4 w.heap.size u1 B1 d1 (seatRows (S.take (k+1)))∧Below w.heap.size u u1) hs hd zl (fun K Q hK=>
   op_app_row (.tmp 12) (.tmp 14) rfl Tryz.underlying25 (z:=.agg #[.string ⟨#[]⟩,.string ⟨#[]⟩,.int .i64 0,.int .i64 0]) (k:=4) (bytes:=48) (by kernel_rfl) rfl (by decide) (R:=seatRows (S.take k)) (r:=s.cells) (by rw[HL.out];exact sl zl 12) (sl zl 14) hown hgs rfl (seat_one s) (by rw[HL.out];omega) (by decide) hB.size
    (fun B1 d1 u1 h1 h2 _ _=>by
     rw[← seats_snoc S k s HS.out]at h1⊢;have e:(seatRows (S.take (k+1))).length=k+1:=by rw[seatRows_length,List.length_take,hN.out];omega
     rw[e];exact hK _ _ ⟨B1,d1,rfl,h1,h2⟩)) ?_
  rintro _ u1 ⟨B1,d1,rfl,hown1,hb1⟩;clear hs hd zl;intro a hs hd zl;replace hB:Below w.heap.size w u1:=hB.trans hb1;clear hup hown hgs hb1;refine wW ?_;clear hs hd zl;intro a hs hd zl;rw[← HA.out]at zl;refine⟨⟨k+1,B1,d1,hs,hd,ks zl,hlt,hB,hown1⟩,?_⟩;rw[sl zl 8];simp[intOf];omega
 ·obtain rfl:k=n:=by omega
  have e1:decide (k<k)=false:=decide_eq_false (by omega);refine wW ?_;clear hs hd zl;intro a hs hd zl;refine wp_exit ?_;(repeat refine then_exit ?_);refine inBlock_exit ?_;rw[← hN.out,List.take_length]at hown;refine wW ?_;clear hs hd zl;intro a hs hd zl;refine wp_ret ?_;(repeat first|refine then_ret ?_|refine inBlock_ret ?_);exact end_tmp rfl hd (sl zl 2) ⟨_,_,rfl,hown.rows,hB⟩
theorem c_getP(S:Vs)(g:Nat)(w:World)(hg:Blk w g 157 S.cells)(hS:S.in_ w):
  Calls Tryz.prog 139 #[.pointer (some ⟨g,0,none⟩)] w fun e w'=>∃(q:Nat) (v:Vl),e=.returned (.pointer (some ⟨q,0,none⟩))∧Blk w' q 163 v.cells∧Below w.heap.size w w':=by
 obtain⟨i,hi⟩:=List.getElem?_of_mem hS.pr;have h0:0<S.P.length:=Nat.lt_of_le_of_lt (Nat.zero_le _) (List.getElem?_eq_some_iff.1 hi).1;obtain⟨v,hv⟩:∃v,S.V[i]?=some v:=⟨S.V[i]'(by rw[← hS.len];exact(List.getElem?_eq_some_iff.1 hi).1),List.getElem?_eq_getElem _⟩;have hvl:=hS.vl i _ v hi hv;refine en (sz:=24) rfl rfl rfl fun a hs hd zl=>?_;have hB:=bz_refl w
 have c0:w.cell? ⟨g,0,none⟩=some (.slice S.A S.P.length S.c):=hg.cell 0;have c1:w.cell? ⟨g,1,none⟩=some (.pointer (some ⟨S.pr,0,none⟩)):=hg.cell 1;have e0:((S.P.length:Int) == 0)=false:=by rw[beq_eq_false_iff_ne];omega
 clear hi hv;refine wW ?_;clear hs hd zl;intro a hs hd zl;refine tc (c_Copy v S.pr w hvl.blk) hs hd zl ?_;rintro _ u ⟨q,rfl,-,hq,hb⟩;refine⟨_,rfl,?_⟩;clear hs hd zl;intro a hs hd zl;refine wW ?_;clear hs hd zl;intro a hs hd zl;refine wp_ret ?_;(repeat first|refine then_ret ?_|refine inBlock_ret ?_);exact end_tmp rfl hd (sl zl 2) ⟨q,v,rfl,hq,hb⟩
theorem c_sbv(S:Vs)(g:Nat)(C:Cm)(gc:Nat)(w:World)(hg:Blk w g 157 S.cells)(hS:S.in_ w)(hC:Blk w gc 121 C.cells):
  Calls Tryz.prog 118 #[.pointer (some ⟨g,0,none⟩),.pointer (some ⟨gc,0,none⟩)] w fun e w'=>e=.returned (.bool false)∧Below w.heap.size w w':=by
 refine en (sz:=23) rfl rfl rfl fun a hs hd zl=>?_;have hB:=bz_refl w
 obtain⟨n,hN⟩:∃n,Is C.S.length n:=is_self _;have c5:w.cell? ⟨gc,5,none⟩=some (.slice C.A n C.c):=by rw[← hN.out];exact hC.cell 5
 by_cases h2:2≤n
 ·have e0:decide (2≤n)=true:=decide_eq_true h2;have e1:decide ((2:Int)≤(n:Int))=true:=decide_eq_true (by omega);refine wW ?_;clear hs hd zl;intro a hs hd zl;refine tc (c_getP S g w hg hS) hs hd zl ?_;rintro _ u ⟨q,v,rfl,hq,hb⟩;refine⟨_,rfl,?_⟩;clear hs hd zl;intro a hs hd zl;clear c5;replace hB:=bz_then hB hb;have d1:u.cell? ⟨q,1,none⟩=some (.iface 159 (.agg (keyV v.ky v.ad))):=hq.cell 1;refine wW ?_;clear hs hd zl;intro a hs hd zl;refine tc (c_supBatch v.ky v.ad u) hs hd zl ?_;rintro _ u ⟨rfl,hb2⟩;refine⟨_,rfl,?_⟩;clear hs hd zl;intro a hs hd zl;refine wW ?_;clear hs hd zl;intro a hs hd zl;refine wp_ret ?_;(repeat first|refine then_ret ?_|refine inBlock_ret ?_);exact end_tmp rfl hd (sl zl 4) ⟨rfl,bz_then hB hb2⟩
 ·have e0:decide (2≤n)=false:=decide_eq_false h2;have e1:decide ((2:Int)≤(n:Int))=false:=decide_eq_false (by omega);refine wW ?_;clear hs hd zl;intro a hs hd zl;refine wp_ret ?_;(repeat first|refine then_ret ?_|refine inBlock_ret ?_);exact end_tmp rfl hd (sl zl 4) ⟨rfl,hB⟩
def adIs(l:List Int)(v:Vl):Bool:=decide (v.ad.l=l)
def adAt(V:List Vl)(l:List Int):Option Nat:=V.findIdx? (adIs l)
theorem adAt_none{V:List Vl}{l:List Int}(h:∀(i:Nat) (v:Vl),i<V.length→V[i]?=some v→v.ad.l≠l):adAt V l=none:=by
 unfold adAt;rw[List.findIdx?_eq_none_iff];intro v hv;obtain⟨i,hi⟩:=List.getElem?_of_mem hv;exact decide_eq_false (h i v (List.getElem?_eq_some_iff.1 hi).1 hi)
theorem adAt_some{V:List Vl}{l:List Int}{k:Nat}{v:Vl}(hk:V[k]?=some v)(hv:v.ad.l=l)(h:∀(i:Nat) (v:Vl),i<k→V[i]?=some v→v.ad.l≠l):adAt V l=some k:=by
 unfold adAt;obtain⟨hl,e⟩:=List.getElem?_eq_some_iff.1 hk;rw[List.findIdx?_eq_some_iff_getElem];refine⟨hl,by rw[e];exact decide_eq_true hv,fun j hj=>?_⟩;exact fun hc=>h j _ hj (List.getElem?_eq_getElem (by omega)) (of_decide_eq_true hc)
theorem c_gbm(S:Vs)(g:Nat)(A:Option Addr)(c:Nat)(l:List Int)(w:World)(hg:Blk w g 157 S.cells)(hS:S.in_ w)(hn:S.P.length≤1000)(hf:Fm A l.length c)(hb:Bs w A l)(h8:Bytes l):
  Calls Tryz.prog 142 #[.pointer (some ⟨g,0,none⟩),.slice A l.length c] w fun e w'=>((∃(k p:Nat),adAt S.V l=some k∧S.P[k]?=some p∧e=.returned (.tuple #[.int .i32 (k:Int),.pointer (some ⟨p,0,none⟩)]))∨adAt S.V l=none∧e=.returned (.tuple #[.int .i32 (-1),.pointer none]))∧Below w.heap.size w w':=by
 have hV:=hS.vin;refine en (sz:=28) rfl rfl rfl fun a hs hd zl=>?_;have hB:=bz_refl w
 obtain⟨n,hN⟩:∃n,Is S.P.length n:=is_self _;have hL:=hV.len;rw[hN.out]at hn hL;have c0:w.cell? ⟨g,0,none⟩=some (.slice S.A n S.c):=by rw[← hN.out];exact hg.cell 0
 have HL:=Is.hid hL;clear hL;refine wW ?_;clear hs hd zl;intro a hs hd zl;clear c0;refine wp_loop (fun a u=>∃(k:Nat),SzIs a 28∧DfNil a∧LiveAll [(1,.slice A l.length c),(11,.slice S.A n S.c),(12,.int .i64 ((n:Nat):Int)),(13,.int .i64 ((k:Nat):Int))] a∧k≤n∧(∀(i:Nat) (v:Vl),i<k→S.V[i]?=some v→v.ad.l≠l)∧Below w.heap.size w u)
  (fun a _=>n-(intOf (a.tmps.getD 13 undef)).toNat) ⟨0,hs,hd,ks zl,Nat.zero_le _,(fun i v h=>absurd h (Nat.not_lt_zero _)),hB⟩ ?_
 clear hs hd zl hB;rintro a u ⟨k,hs,hd,zl,hk,hall,hB⟩;have hup:=bup hB;have hm:(intOf (a.tmps.getD 13 undef)).toNat=k:=by rw[sl zl 13];simp[intOf]
 rw[hm];clear hm;have HAL:=Is.hid hall;clear hall;by_cases hlt:k<n
 ·have e1:decide (k<n)=true:=decide_eq_true hlt;have ew:IntKind.i64.wrap ((k:Int)+1)=((k+1:Nat):Int):=by rw[IntWalk.i64_in _ (by omega)];omega
  have ew2:IntKind.i32.wrap (k:Int)=(k:Int):=IntWalk.i32_in _ (by omega);obtain⟨p,v,b,o,eA,hPk,hVk,hv,hbl,ck⟩:=hV.get (k:=k) (by rw[hN.out];exact hlt);rw[eA]at zl;have HP:=Is.hid hPk;have HV:=Is.hid hVk;have HA:=Is.hid eA;clear eA hPk hVk;have cp:w.cell? ⟨p,0,none⟩=some (.slice v.ad.A v.ad.l.length v.ad.c):=hv.blk.cell 0;have lp:=hv.blk.lt;refine wW ?_;clear hs hd zl;intro a hs hd zl;clear ck cp;by_cases he:v.ad.l=l
  ·have e3:decide (v.ad.l=l)=true:=decide_eq_true he;have HE:=Is.hid he;clear he;refine tc (c_bEqual v.ad.A A v.ad.c c v.ad.l l u (hv.ad.after hB).fm (hv.ad.after hB).bs hv.ad.b8 hf (hb.below hB) h8) hs hd zl ?_;rintro _ u ⟨rfl,rfl⟩;refine⟨_,rfl,?_⟩;rw[e3];clear hs hd zl;intro a hs hd zl;refine wW ?_;clear hs hd zl;intro a hs hd zl;refine wp_ret ?_;(repeat first|refine then_ret ?_|refine inBlock_ret ?_);exact end_tmp2 rfl hd (sl zl 4) (sl zl 5) ⟨.inl ⟨k,p,adAt_some HV.out HE.out HAL.out,HP.out,rfl⟩,hB⟩
  ·have e3:decide (v.ad.l=l)=false:=decide_eq_false he;have HE:=Is.hid he;clear he;refine tc (c_bEqual v.ad.A A v.ad.c c v.ad.l l u (hv.ad.after hB).fm (hv.ad.after hB).bs hv.ad.b8 hf (hb.below hB) h8) hs hd zl ?_;rintro _ u ⟨rfl,rfl⟩;refine⟨_,rfl,?_⟩;rw[e3];clear hs hd zl;intro a hs hd zl;refine wW ?_;clear hs hd zl;intro a hs hd zl;rw[← HA.out]at zl;refine⟨⟨k+1,hs,hd,ks zl,hlt,fun i x hi hx=>?_,hB⟩,?_⟩
   ·rcases Nat.lt_or_ge i k with h|h
    ·exact HAL.out i x h hx
    ·obtain rfl:i=k:=by omega
     rw[HV.out]at hx;injection hx with hx;rw[← hx];exact HE.out
   ·rw[sl zl 13];simp[intOf];omega
 ·obtain rfl:k=n:=by omega
  have e1:decide (k<k)=false:=decide_eq_false (by omega);refine wW ?_;clear hs hd zl;intro a hs hd zl;refine wp_exit ?_;(repeat refine then_exit ?_);refine inBlock_exit ?_;refine wW ?_;clear hs hd zl;intro a hs hd zl;refine wp_ret ?_;(repeat first|refine then_ret ?_|refine inBlock_ret ?_);exact end_tmp2 rfl hd (sl zl 4) (sl zl 5) ⟨.inr ⟨adAt_none (fun i v hi=>HAL.out i v (by rw[HL.out];exact hi)),rfl⟩,hB⟩
theorem c_gba(S:Vs)(g:Nat)(A:Option Addr)(c:Nat)(l:List Int)(w:World)(hg:Blk w g 157 S.cells)(hS:S.in_ w)(hn:S.P.length≤1000)(hf:Fm A l.length c)(hb:Bs w A l)(h8:Bytes l):
  Calls Tryz.prog 144 #[.pointer (some ⟨g,0,none⟩),.slice A l.length c] w fun e w'=>((∃(k q:Nat) (v:Vl),adAt S.V l=some k∧S.V[k]?=some v∧Blk w' q 163 v.cells∧e=.returned (.tuple #[.int .i32 (k:Int),.pointer (some ⟨q,0,none⟩)]))∨adAt S.V l=none∧e=.returned (.tuple #[.int .i32 (-1),.pointer none]))∧Below w.heap.size w w':=by
 have hV:=hS.vin;refine en (sz:=18) rfl rfl rfl fun a hs hd zl=>?_;have hB:=bz_refl w
 refine wW ?_;clear hs hd zl;intro a hs hd zl;refine tc (c_gbm S g A c l w hg hS hn hf hb h8) hs hd zl ?_;rintro _ u ⟨h,hb2⟩;rcases h with⟨k,p,h1,h2,rfl⟩|⟨h1,rfl⟩
 ·refine⟨_,rfl,?_⟩;clear hs hd zl;intro a hs hd zl;replace hB:=bz_then hB hb2;have hk:k<S.P.length:=(List.getElem?_eq_some_iff.1 h2).1;have e0:((k:Int) == -1)=false:=by rw[beq_eq_false_iff_ne];omega
  obtain⟨v,hv⟩:∃v,S.V[k]?=some v:=⟨S.V[k]'(by rw[← hV.len];exact hk),List.getElem?_eq_getElem _⟩;have hvl:=(hV.vl k p v h2 hv).after hB;have H1:=Is.hid h1;have HV:=Is.hid hv;clear h1 h2 hv;refine wW ?_;clear hs hd zl;intro a hs hd zl;refine tc (c_Copy v p u hvl.blk) hs hd zl ?_;rintro _ u ⟨q,rfl,-,hq,hb3⟩;refine⟨_,rfl,?_⟩;clear hs hd zl;intro a hs hd zl;refine wW ?_;clear hs hd zl;intro a hs hd zl;refine wp_ret ?_;(repeat first|refine then_ret ?_|refine inBlock_ret ?_);exact end_tmp2 rfl hd (sl zl 4) (sl zl 5) ⟨.inl ⟨k,q,v,H1.out,HV.out,hq,rfl⟩,bz_then hB hb3⟩
 ·refine⟨_,rfl,?_⟩;clear hs hd zl;intro a hs hd zl;have H1:=Is.hid h1;clear h1;refine wW ?_;clear hs hd zl;intro a hs hd zl;refine wp_ret ?_;(repeat first|refine then_ret ?_|refine inBlock_ret ?_);exact end_tmp2 rfl hd (sl zl 4) (sl zl 5) ⟨.inr ⟨H1.out,rfl⟩,bz_then hB hb2⟩
theorem meth_kBytes(k a:HSl)(w:World):(method 386 159 (.agg (keyV k a)) "Bytes").run Tryz.prog w=.ok (193,.agg (keyV k a)) w:=by kernel_rfl
theorem meth_kNilB(k a:HSl)(w:World):(nilAhead 386 159 (.agg (keyV k a)) "Bytes").run Tryz.prog w=.ok (some false) w:=by kernel_rfl
theorem c_kBytes(k a:HSl)(w:World):Calls Tryz.prog 193 #[.agg (keyV k a)] w fun e w'=>e=.returned (.slice k.A k.l.length k.c)∧Below w.heap.size w w':=by
 unfold keyV
 go_enter Tryz.func193,Tryz.ntmps193
 go_wp2
 go_ret
 exact⟨rfl,by(repeat' (first|exact Below.refl _ _|exact Nat.le_refl _|(with_reducible assumption)|refine Below.setCell ?_ ?_ _|refine Below.alloc ?_ ?_ _|refine below_drewN ?_ _|refine Below.drew ?_|(simp;done)|omega|(simp;omega)|(simp at *;omega)))⟩
theorem c_svb(k ad:HSl)(p:Int)(w:World)(hk:k.ok w)(hp:0≤p∧p≤9223372036854775807):
  Calls Tryz.prog 112 #[.iface 159 (.agg (keyV k ad)),.int .i64 p] w (OutB w (withinL 1 (withinL 1 k.l)++numL 2 p.toNat)):=by
 have m1:=meth_kBytes k ad;have m2:=meth_kNilB k ad;refine en (sz:=12) rfl rfl rfl fun a hs hd zl=>?_;have hB:=bz_refl w
 refine wW ?_;clear hs hd zl;intro a hs hd zl;refine tc (c_kBytes k ad w) hs hd zl ?_;rintro _ u ⟨rfl,hb⟩;refine⟨_,rfl,?_⟩;clear hs hd zl;intro a hs hd zl;replace hB:=bz_then hB hb;clear hb;have hkl:=hk.len;have l1:=withinL_len 1 k.l (by omega);have l2:=withinL_len 1 (withinL 1 k.l) (by omega);refine tc (c_putMessage0 1 u (by omega) (hk.after hB).bs (by omega)) hs hd zl ?_;rintro _ u1 ⟨x1,A1,c1,hx1,rfl,ho1,hb1⟩;refine⟨_,rfl,?_⟩;clear hs hd zl;intro a hs hd zl;refine tc (c_putMessage0 1 u1 (by omega) ho1.bs (by rw[hx1.out];show(withinL 1 k.l).length≤_;omega)) hs hd zl ?_;rintro _ u2 ⟨x2,A2,c2,hx2,rfl,ho2,hb2⟩;refine⟨_,rfl,?_⟩;clear hs hd zl;intro a hs hd zl;have ew:IntKind.u64.wrap p=p:=IntWalk.u64_in _ (by omega);have hx2l:x2.length≤10000000000000:=by rw[hx2.out,hx1.out];show(withinL 1 (withinL 1 k.l)).length≤_;omega
 refine wW ?_;clear hs hd zl;intro a hs hd zl;refine tc (c_putNumber 2 p u2 ho2 hb2.size hx2l (by omega) hp.1 hp.2) hs hd zl ?_;rintro _ u3 ⟨x3,A3,c3,hx3,rfl,ho3,hg3,-⟩;refine⟨_,rfl,?_⟩;clear hs hd zl;intro a hs hd zl;refine wW ?_;clear hs hd zl;intro a hs hd zl;refine wp_ret ?_;(repeat first|refine then_ret ?_|refine inBlock_ret ?_);have hz:=hB.size;have hz1:=hb1.size;refine end_tmp rfl hd (sl zl 4) (OutB.mk' (by rw[hx3.out,hx2.out,hx1.out];rfl) (ho3.less (by omega)) ?_);exact(bz_then hB hb1).trans ((hb2.mono (by omega)).trans ((ho2.below hb2.size hg3).mono (by omega)))
theorem c_vBytes(v:Vl)(p:Nat)(w:World)(hv:VlAt w p v)(hp:0≤v.p∧v.p≤9223372036854775807):
  Calls Tryz.prog 94 #[.pointer (some ⟨p,0,none⟩)] w (OutB w (withinL 1 (withinL 1 v.ky.l)++numL 2 v.p.toNat)):=by
 refine en (sz:=12) rfl rfl rfl fun a hs hd zl=>?_;have hB:=bz_refl w
 have c1:w.cell? ⟨p,1,none⟩=some (.iface 159 (.agg (keyV v.ky v.ad))):=hv.blk.cell 1;have c2:w.cell? ⟨p,2,none⟩=some (.int .i64 v.p):=hv.blk.cell 2;have lp:=hv.blk.lt;refine wW ?_;clear hs hd zl;intro a hs hd zl
 (try change Code.wp _ _ _ _ _);refine fx [(3,_),(4,_),(5,_),(6,_),(7,_),(8,_),(9,_),(10,_)] 8 hs hd zl ?_;clear hs hd zl;intro a u hb hs hd zl;replace hB:=bz_then hB hb;(try clear hup);have hup:=bup hB;clear hb
 refine tc (c_svb v.ky v.ad v.p u (hv.ky.after hB) hp) hs hd zl ?_;rintro _ u1 ⟨x1,A1,k1,hx1,rfl,ho1,hb1⟩;refine⟨_,rfl,?_⟩;clear hs hd zl;intro a hs hd zl;refine wW ?_;clear hs hd zl;intro a hs hd zl;refine wp_ret ?_;(repeat first|refine then_ret ?_|refine inBlock_ret ?_);exact end_tmp rfl hd (sl zl 2) (OutB.mk' hx1.out (ho1.less hB.size) (bz_then hB hb1))
section
variable{ops:Array Oper}{Q:Exit→Act→World→Prop}
theorem tms{P:Program}{o:Oper}{rest:List Oper}{a:Act}{w:World}{d x sz n:Nat}{F F':List (Nat×Value)}{t e:TypeId}{i:TypeInfo}{z:Value}(hs:SzIs a sz)(hd:DfNil a)(zl:LiveAll F a)(ht:P.underlying t=some (.slice e))(hi:P.info? e=some i)(hz:i.zero=some z)(hn:n≤1000)(hby:i.bytes≤1000000)
  (h:∀g w',Blk w' g e (madeCells z.cells (n*i.size))→w.heap.size≤g→Below w.heap.size w w'→∀a',SzIs a' sz→DfNil a'→LiveAll ((d,.slice (some ⟨g,0,none⟩) n n)::F') a'→wpList P ops Q rest a' w')
  (hop:o.op=.makeSlice t (.tmp x) (.tmp x):=by exact rfl)(hx:F.lookup x=some (.int .i64 (n:Int)):=by exact rfl)(hg:o.guard=none:=by exact rfl)(hdst:o.dst=some d:=by exact rfl)(hlt:d<sz:=by decide)
  (hF:F.filter (fun p=>p.1 != d)=F':=by simp[List.filter];rfl):wpList P ops Q (o::rest) a w:=by
 have hb:(i.bytes:Int)*(n:Int)≤281474976710656:=by
  have:=Nat.mul_le_mul hby hn;have h2:((i.bytes*n:Nat):Int)≤((1000000*1000:Nat):Int):=Int.ofNat_le.2 this;rw[Int.natCast_mul]at h2;omega
 have hr:=run_make (P:=P) w t e i z ht hi hz .i64 .i64 (n:Int) (n:Int) (by omega) (by omega) hb (by omega);rw[Int.toNat_natCast]at hr;refine tk hs hd zl (v:=.slice (some ⟨w.heap.size,0,none⟩) n n) (w':=w.alloc (.cells (madeCells z.cells (n*i.size)) e)) (fun K Q hK=>?_) (h _ _ (Blk.new w _ _) (Nat.le_refl _) ((Below.refl _ _).alloc (Nat.le_refl _) _)) (.inl hg) hdst hlt hF;have hv:a.eval (.tmp x)=.int .i64 (n:Int):=sl zl x hx;unfold Oper.wp execOp;simp only[hop,hv,Sem.run_bind,Sem.run_pure,Result.andThen_ok,hr];rw[Oper.upon_value,hdst];exact hK
end
structure Lf(A:Option Addr)(c:Nat)(l:List Int)(u:World)(gz:Nat):Prop where
 bs:Bs u A l
 fm:Fm A l.length c
 cap:l.length≤c
 ne:∀b,blkOf A=some b→b≠gz
theorem Lf.after{A:Option Addr}{c:Nat}{l:List Int}{u u':World}{gz:Nat}(h:Lf A c l u gz)(hb:Below u.heap.size u u'):Lf A c l u' gz:=⟨h.bs.after hb,h.fm,h.cap,h.ne⟩
theorem Lf.set{A:Option Addr}{c:Nat}{l:List Int}{u:World}{gz:Nat}(h:Lf A c l u gz)(i:Nat)(v:Value):Lf A c l (u.setCell ⟨gz,i,none⟩ v) gz:=
 ⟨h.bs.grown (gb_set (gb_refl u (some gz)) i v) (fun _ e=>h.ne gz e rfl),h.fm,h.cap,h.ne⟩
def vLeaf(v:Vl):List Int:=withinL 1 (withinL 1 v.ky.l)++numL 2 v.p.toNat
def vLeaves(V:List Vl):List (List Int):=V.map vLeaf
theorem c_vsHash(S:Vs)(g:Nat)(w:World)(hg:Blk w g 157 S.cells)(hS:S.in_ w)(hp:∀v∈S.V,0≤v.p∧v.p≤9223372036854775807)(hsm:Small (vLeaves S.V))(hn:S.P.length≤20)(hKt:KTab w 1)(h0:1<w.heap.size):
  Calls Tryz.prog 84 #[.pointer (some ⟨g,0,none⟩)] w fun e w'=>∃v,e=.returned v∧BsAt w.heap.size (rootN 20 (vLeaves S.V)) v w'∧Below w.heap.size w w':=by
 have hV:=hS.vin;refine en (sz:=30) rfl rfl rfl fun a hs hd zl=>?_;have hB:=bz_refl w
 obtain⟨n,hN⟩:∃n,Is S.P.length n:=is_self _;rw[hN.out]at hn;have HL:=Is.hid (hV.len.symm.trans hN.out);have c0:w.cell? ⟨g,0,none⟩=some (.slice S.A n S.c):=by rw[← hN.out];exact hg.cell 0
 have lg:=hg.lt;refine wW ?_;clear hs hd zl;intro a hs hd zl;have hinf:(Tryz.prog.info? 32).map (fun i=>(i.zero,i.size,i.bytes))=some (some (.slice none 0 0),1,24):=by kernel_rfl
 obtain⟨i0,hi0,hz0,hz1,hz2⟩:=info_parts hinf;refine tms (n:=n) hs hd zl Tryz.underlying104 hi0 hz0 (by omega) (by omega) ?_;rw[hz1,Nat.mul_one];intro gz u hgz hgze hb;clear hs hd zl;intro a hs hd zl;replace hB:=bz_then hB hb;(try clear hup);have hup:=bup hB;clear hb;have hcs0:(madeCells (Value.slice none 0 0).cells n).size=n:=size_madeCells _ _;generalize madeCells (Value.slice none 0 0).cells n=cs at hgz hcs0;refine wW ?_;clear hs hd zl;intro a hs hd zl;clear c0;refine wp_loop (fun a u=>∃(k:Nat) (cs:Array Value),SzIs a 30∧DfNil a∧LiveAll [(3,.slice (some ⟨gz,0,none⟩) n n),(15,.slice S.A n S.c),(16,.int .i64 ((n:Nat):Int)),(17,.int .i64 ((k:Nat):Int))] a∧k≤n∧Below w.heap.size w u∧Blk u gz 32 cs∧cs.size=n∧(∀(i:Nat) (v:Vl),i<k→S.V[i]?=some v→∃A c,cs[i]?=some (.slice A (vLeaf v).length c)∧Lf A c (vLeaf v) u gz))
  (fun a _=>n-(intOf (a.tmps.getD 17 undef)).toNat) ⟨0,cs,hs,hd,ks zl,Nat.zero_le _,hB,hgz,hcs0,(fun i v h=>absurd h (Nat.not_lt_zero _))⟩ ?_
 clear hs hd zl hB hup hgz hcs0 cs u;rintro a u ⟨k,cs,hs,hd,zl,hk,hB,hgz,hcs,hall⟩;have hup:=bup hB;have hm:(intOf (a.tmps.getD 17 undef)).toNat=k:=by rw[sl zl 17];simp[intOf]
 rw[hm];clear hm;have HCS:=Is.hid hcs;clear hcs;by_cases hlt:k<n
 ·have e1:decide (k<n)=true:=decide_eq_true hlt;have ew:IntKind.i64.wrap ((k:Int)+1)=((k+1:Nat):Int):=by rw[IntWalk.i64_in _ (by omega)];omega
  obtain⟨p,v,b,o,eA,hPk,hVk,hv,hbl,ck⟩:=hV.get (k:=k) (by rw[hN.out];exact hlt);rw[eA]at zl;have HV:=Is.hid hVk;have HA:=Is.hid eA;clear eA hPk hVk;refine wW ?_;clear hs hd zl;intro a hs hd zl;clear ck;refine tc (c_vBytes v p u (hv.after hB) (hp v (List.mem_of_getElem? HV.out))) hs hd zl ?_;rintro _ u1 ⟨x,A1,k1,hx,rfl,ho,hb⟩;refine⟨_,rfl,?_⟩;clear hs hd zl;intro a hs hd zl;have hgl:=hgz.lt;replace hgz:=hgz.after hb;replace hall:=fun(i:Nat) (v:Vl) h1 h2=>(by obtain⟨A,c,h3,h4⟩:=hall i v h1 h2;exact⟨A,c,h3,h4.after hb⟩:∃A c,cs[i]?=some (.slice A (vLeaf v).length c)∧Lf A c (vLeaf v) u1 gz)
  replace hB:=bz_then hB hb;clear hup;have hx':x=vLeaf v:=hx.out;subst hx';have hlf:Lf A1 k1 (vLeaf v) u1 gz:=⟨ho.bs,ho.fm,ho.cap,fun b hb=>by have:=(ho.blk_ge b hb).1;omega⟩;have ck:u1.cell? ⟨gz,k,none⟩=some (cs[k]'(by rw[HCS.out];exact hlt)):=by rw[hgz.cell];exact Array.getElem?_eq_getElem _
  have fk:=hgz.free k;clear ho hb hx;have HH:=Is.hid hall;clear hall;refine wW ?_;clear hs hd zl;intro a hs hd zl;refine ts hs hd zl ?_;clear hs hd zl;intro a hs hd zl;have hgz2:=hgz.set_ k (.slice A1 (vLeaf v).length k1);have hlf2:=hlf.set k (.slice A1 (vLeaf v).length k1);have hall2:∀(i:Nat) (v':Vl),i<k+1→S.V[i]?=some v'→∃A c,(cs.setIfInBounds k (.slice A1 (vLeaf v).length k1))[i]?=some (.slice A (vLeaf v').length c)∧Lf A c (vLeaf v') (u1.setCell ⟨gz,k,none⟩ (.slice A1 (vLeaf v).length k1)) gz:=fun i v' h1 h2=>by
   rcases Nat.lt_or_ge i k with h|h
   ·obtain⟨A,c,h3,h4⟩:=HH.out i v' h h2;exact⟨A,c,by rw[Array.getElem?_setIfInBounds_ne (by omega)];exact h3,h4.set k _⟩
   ·obtain rfl:i=k:=by omega
    rw[HV.out]at h2;injection h2 with h2;subst h2;exact⟨A1,k1,by rw[Array.getElem?_setIfInBounds_self_of_lt (by rw[HCS.out];exact hlt)],hlf2⟩
  have hB2:Below w.heap.size w (u1.setCell ⟨gz,k,none⟩ (.slice A1 (vLeaf v).length k1)):=hB.setCell (p:=⟨gz,k,none⟩) hgze _;have hcs2:(cs.setIfInBounds k (.slice A1 (vLeaf v).length k1)).size=n:=by rw[Array.size_setIfInBounds];exact HCS.out
  clear ck fk hgz hlf hlf2 hB hgl;generalize u1.setCell ⟨gz,k,none⟩ (.slice A1 (vLeaf v).length k1)=u2 at hgz2 hall2 hB2⊢;have HC2:=Is.hid hcs2;have HA2:=Is.hid hall2;clear hcs2 hall2;refine wW ?_;clear hs hd zl;intro a hs hd zl;rw[← HA.out]at zl;refine⟨⟨k+1,_,hs,hd,ks zl,hlt,hB2,hgz2,HC2.out,HA2.out⟩,?_⟩;rw[sl zl 17];simp[intOf];omega
 ·obtain rfl:k=n:=by omega
  have e1:decide (k<k)=false:=decide_eq_false (by omega);have HH:=Is.hid hall;clear hall;refine wW ?_;clear hs hd zl;intro a hs hd zl;refine wp_exit ?_;(repeat refine then_exit ?_);refine inBlock_exit ?_;refine wW ?_;clear hs hd zl;intro a hs hd zl;have hlen:(vLeaves S.V).length=k:=by unfold vLeaves;rw[List.length_map];exact HL.out
  refine tc (c_root (vLeaves S.V) k (some ⟨gz,0,none⟩) k u hlen hn (Nat.le_refl _) (fun i hi=>?_) hsm (hKt.after hB) (Nat.lt_of_lt_of_le h0 hB.size)) hs hd zl ?_
  ·rw[hlen]at hi;have hi':i<S.V.length:=by rw[HL.out];exact hi
   obtain⟨A,c,h3,h4⟩:=HH.out i _ hi (List.getElem?_eq_getElem hi');have e:(vLeaves S.V).getD i []=vLeaf S.V[i]:=by unfold vLeaves;rw[List.getD_eq_getElem?_getD,List.getElem?_map,List.getElem?_eq_getElem hi'];rfl
   rw[e];exact⟨gz,0,A,c,rfl,hgz.lt,by rw[Nat.zero_add,hgz.cell];exact h3,h4.bs,h4.cap,h4.fm⟩
  ·rintro _ u3 ⟨v,rfl,hv,hb⟩;refine⟨_,rfl,?_⟩;clear hs hd zl;intro a hs hd zl;refine wW ?_;clear hs hd zl;intro a hs hd zl;refine wp_ret ?_;(repeat first|refine then_ret ?_|refine inBlock_ret ?_);obtain⟨l',A,c,h1,h2,h3,h4,h5,h6⟩:=hv;exact end_tmp rfl hd (sl zl 2) ⟨v,rfl,⟨l',A,c,h1,h2,h3,h4,h5,fun q hq=>⟨Nat.le_trans hB.size (h6 q hq).1,(h6 q hq).2⟩⟩,bz_then hB hb⟩
def CS.wf(s:CS):Prop:=s.fl=1∧s.ad.l.length=0∧s.sec=0∧s.ns=0∧s.sg.l.length=0∨(s.fl=2∨s.fl=3)∧s.ad.l.length=20∧s.sg.l.length=32
theorem c_csV(s:CS)(w:World)(hs:s.wf):Calls Tryz.prog 105 #[.agg s.cells.toArray] w fun e w'=>e=.returned .nilIface∧Below w.heap.size w w':=by
 rcases hs with⟨h1,h2,h3,h4,h5⟩|⟨h1,h2,h3⟩
 ·have:=c_csV1 s.ad.A s.sg.A s.ad.c s.sg.c w;rw[show s.cells.toArray=#[.int .u8 1,.slice s.ad.A 0 s.ad.c,.int .i64 0,.int .i32 0,.slice s.sg.A 0 s.sg.c]from by unfold CS.cells HSl.v;rw[h1,h2,h3,h4,h5]];exact this
 ·have:=c_csV2 s.fl s.sec s.ns h1 s.ad.A s.sg.A s.ad.c s.sg.c w;rw[show s.cells.toArray=#[.int .u8 s.fl,.slice s.ad.A 20 s.ad.c,.int .i64 s.sec,.int .i32 s.ns,.slice s.sg.A 32 s.sg.c]from by unfold CS.cells HSl.v;rw[h2,h3]];exact this
theorem c_cmV(C:Cm)(g:Nat)(w:World)(hC:C.at w g)(hht:0<C.ht∧C.ht≤9223372036854775807)(hrd:0≤C.rd)(hb:0<C.b.l.length)(hn0:0<C.S.length)(hn:C.S.length≤1000)(hwf:∀s∈C.S,s.wf):
  Calls Tryz.prog 92 #[.pointer (some ⟨g,0,none⟩)] w fun e w'=>e=.returned .nilIface∧Below w.heap.size w w':=by
 refine en (sz:=51) rfl rfl rfl fun a hs hd zl=>?_;have hB:=bz_refl w
 obtain⟨n,hN⟩:∃n,Is C.S.length n:=is_self _;rw[hN.out]at hn0 hn;obtain⟨ht,hHT⟩:∃n,Is C.ht n:=is_self _;obtain⟨rd,hRD⟩:∃n,Is C.rd n:=is_self _;rw[hHT.out]at hht;rw[hRD.out]at hrd;have c0:w.cell? ⟨g,0,none⟩=some (.int .i64 ht):=by rw[← hHT.out];exact hC.blk.cell 0
 have c1:w.cell? ⟨g,1,none⟩=some (.int .i32 rd):=by rw[← hRD.out];exact hC.blk.cell 1
 have c5:w.cell? ⟨g,5,none⟩=some (.slice C.A n C.c):=by rw[← hN.out];exact hC.blk.cell 5
 have e1:decide (ht<0)=false:=decide_eq_false (by omega);have e2:decide (rd<0)=false:=decide_eq_false (by omega);have e3:decide (1≤ht)=true:=decide_eq_true (by omega);have e4:((n:Int) == 0)=false:=by rw[beq_eq_false_iff_ne];omega
 have lg:=hC.blk.lt;refine wW ?_;clear hs hd zl;intro a hs hd zl;refine tk hs hd zl (fun K Q hK=>op_load_part 117 (.tmp 25) rfl g 2 (sl zl 25) _ _ #[.slice C.b.A C.b.l.length C.b.c,.int .u32 C.bt,.slice C.bp.A C.bp.l.length C.bp.c] _ hC.blk (show(2+3:Nat)≤7 by decide) rfl rfl (by kernel_rfl) rfl hK) ?_;clear hs hd zl;intro a hs hd zl;refine tc (c_bidNil C.bt C.b.A C.bp.A C.b.c C.bp.c C.b.l.length C.bp.l.length w hb) hs hd zl ?_;rintro _ u ⟨rfl,hb⟩;refine⟨_,rfl,?_⟩;clear hs hd zl;intro a hs hd zl;replace hB:=bz_then hB hb;(try clear hup);have hup:=bup hB;clear hb;refine wW ?_;clear hs hd zl;intro a hs hd zl;clear c0 c1 c5;refine wp_loop (fun a u=>∃(k:Nat),SzIs a 51∧DfNil a∧LiveAll [(39,.slice C.A n C.c),(40,.int .i64 ((n:Nat):Int)),(41,.int .i64 ((k:Nat):Int))] a∧k≤n∧Below w.heap.size w u)
  (fun a _=>n-(intOf (a.tmps.getD 41 undef)).toNat) ⟨0,hs,hd,ks zl,Nat.zero_le _,hB⟩ ?_
 clear hs hd zl hB hup;rintro a u ⟨k,hs,hd,zl,hk,hB⟩;have hm:(intOf (a.tmps.getD 41 undef)).toNat=k:=by rw[sl zl 41];simp[intOf]
 rw[hm];clear hm e1 e2 e3 e4;by_cases hlt:k<n
 ·have e1:decide (k<n)=true:=decide_eq_true hlt;have ew:IntKind.i64.wrap ((k:Int)+1)=((k+1:Nat):Int):=by rw[IntWalk.i64_in _ (by omega)];omega
  obtain⟨s,hSk⟩:∃s,C.S[k]?=some s:=⟨C.S[k]'(by rw[hN.out];exact hlt),List.getElem?_eq_getElem _⟩;obtain⟨b,o,eA,hb0,hcs⟩:=(hC.rows.after hB).at_ (by unfold csRows;rw[List.length_map,hN.out];exact hn0);have hck:=hcs k s.cells (by unfold csRows;rw[List.getElem?_map,hSk];rfl);have hsw:=hwf s (List.mem_of_getElem? hSk);clear hcs hSk;rw[eA]at zl;have HA:=Is.hid eA;clear eA;refine wW ?_;clear hs hd zl;intro a hs hd zl;refine tk hs hd zl (fun K Q hK=>op_load_cells 124 (.tmp 43) rfl b _ (sl zl 43) s.cells _ hck.2 rfl rfl (by kernel_rfl) hK) ?_;clear hs hd zl;intro a hs hd zl;clear hck hb0;refine tas hs hd zl s.one ?_;intro g5 u hg5 hge5 hb;clear hs hd zl;intro a hs hd zl;replace hB:=bz_then hB hb;clear hb
  (repeat first|refine wp_seq ?_|refine wp_block ?_|refine wp_region_list ?_|(refine tx hs hd zl ?_;clear hs hd zl;intro a hs hd zl)|(refine tn hs hd zl ?_;clear hs hd zl;intro a hs hd zl)|refine ct zl ?_|refine cf zl ?_|refine wp_skip ?_)
  refine tk hs hd zl (fun K Q hK=>op_load_row 124 (.tmp 4) rfl g5 (sl zl 4) _ s.cells.toArray _ hg5 rfl rfl (by kernel_rfl) hK) ?_;clear hs hd zl;intro a hs hd zl;refine tc (c_csV s u hsw) hs hd zl ?_;rintro _ u ⟨rfl,hb⟩;refine⟨_,rfl,?_⟩;clear hs hd zl;intro a hs hd zl;replace hB:=bz_then hB hb;clear hb hg5;refine wW ?_;clear hs hd zl;intro a hs hd zl;rw[← HA.out]at zl;refine⟨⟨k+1,hs,hd,ks zl,hlt,hB⟩,?_⟩;rw[sl zl 41];simp[intOf];omega
 ·obtain rfl:k=n:=by omega
  have e1:decide (k<k)=false:=decide_eq_false (by omega);refine wW ?_;clear hs hd zl;intro a hs hd zl;refine wp_exit ?_;(repeat refine then_exit ?_);refine inBlock_exit ?_;refine wW ?_;clear hs hd zl;intro a hs hd zl;refine wp_ret ?_;(repeat first|refine then_ret ?_|refine inBlock_ret ?_);exact end_tmp rfl hd (sl zl 2) ⟨rfl,hB⟩
section
variable{P:Program}{ops:Array Oper}{Q:Exit→Act→World→Prop}
theorem fxs{id:Nat}{draw:Bool}{F H:List (Nat×Value)}{R:List FItem}(G:List ((Nat×Value)⊕FItem))(m:Nat){a0:Act}{W:World}{sz:Nat}(hsz:SzIs a0 sz)(hdf:DfNil a0)(hl:LiveAll F a0)
  (hstep:StepsOk P ops Q F sz W (G.map itS) ops.toList (G.map itS))
  (hend:∀a w,Below W.heap.size W w→SzIs a sz→DfNil a→LiveAll H a→HoldAll a w R→wpList P ops Q (ops.toList.drop m) a w)
  (hG:lfS G++F=H:=by simp only[lfS,List.cons_append,List.nil_append];rfl)(hR:rtS G=R:=by simp only[rtS];rfl)
  (hm:P.follows .mixedOrders=true:=by kernel_rfl)(hck:flowOk2 ops m ((G.map itS).map FItem.reads)=true:=by kernel_rfl)(hdr:(!draw || drawOk2 ops m)=true:=by kernel_rfl)
  (hlk:liveOk2 ops m (F.map (·.1))=true:=by kernel_rfl):(Code.region id ops draw).wp P Q a0 W:=by
 subst hG hR;exact fl2 _ m hsz hdf hl hstep (fun a w hb hs hd hl hh=>hend a w hb hs hd (hAllS G hh F hl).1 (hAllS G hh F hl).2) hm hck hdr hlk
theorem bcs{F:List (Nat×Value)}{sz:Nat}{W:World}{its:List FItem}{o:Oper}{d B:Nat}{l:List Int}{f:FuncId}{args:Array Value}(hc:∀w,Below W.heap.size W w→Calls P f args w fun e w'=>∃v,e=.returned v∧BsAt w.heap.size l v w'∧Below w.heap.size w w')(hB:B≤W.heap.size)
  (hdst:o.dst=some d:=by exact rfl)(hlt:d<sz:=by decide)
  (h:∀(a:Act) (w:World),Below W.heap.size W w→LiveAll F a→DepsHold its a w (deps o)→∀(K:Act→World→Prop) (Q:Exit→Act→World→Prop),(∀S:Ending→World→Prop,(∀v w',K (a.put (some d) v) w'→S (.returned v) w')→Calls P f args w S)→o.wp P a w K Q:=by
   (intro a w hb zl hd K Q hK;have q:=gA zl;have q1:=bup hb;(try have q2:=bup (bz_then hB hb));simp only[GetAll]at q;simp[deps,Region.binds,deG,deN,eqG]at hd;go_simp;(with_reducible refine hK _ ?_);exact fun v w' h=>h)):
  Bare P Q F sz W its o (FItem.bs d B l):=fun a w hb hs hl hd K hK=>h a w hb hl hd K Q fun S hS=>(hc w hb).mono fun e w' he=>by
 obtain⟨v,rfl,hv,hb'⟩:=he;rw[hdst]at hK;obtain⟨l',A,c,h1,h2,h3,h4,h5,h6⟩:=hv;exact hS _ _ (hK _ _ hb' (bs_put hs hlt ⟨l',A,c,h1,h2,h3,h4,h5,fun k hk=>⟨Nat.le_trans (Nat.le_trans hB hb.size) (h6 k hk).1,(h6 k hk).2⟩⟩))
theorem bmv{F:List (Nat×Value)}{sz:Nat}{W:World}{its:List FItem}{o:Oper}{d t B:Nat}{l:List Int}(j:Nat)(hop:o.op=.assign (.tmp t):=by exact rfl)(hj:its[j]?=some (FItem.bs t B l):=by exact rfl)(hcj:(deps o).contains j=true:=by kernel_rfl)
  (hdst:o.dst=some d:=by exact rfl)(hlt:d<sz:=by decide):Bare P Q F sz W its o (FItem.bs d B l):=fun a w hb hs hl hd K hK=>by
 have h0:=dep_get0 hd j hcj;rw[hj]at h0;have hv:=FItem.bs_holds.1 h0;unfold Oper.wp execOp;rw[hop];rw[hdst]at hK;show K (a.put o.dst (a.eval (.tmp t))) w
 rw[hdst];exact hK _ _ (Below.refl _ _) (bs_put hs hlt hv)
theorem bk{F:List (Nat×Value)}{sz:Nat}{W:World}{its:List FItem}{o:Oper}{d:Nat}{v:Value}(h:∀(a:Act) (w:World),Below W.heap.size W w→LiveAll F a→DepsHold its a w (deps o)→∀(K:Act→World→Prop) (Q:Exit→Act→World→Prop),K (a.put (some d) v) w→o.wp P a w K Q)
  (hdst:o.dst=some d:=by exact rfl)(hlt:d<sz:=by decide):Bare P Q F sz W its o (FItem.eq d v):=fun a w hb hs hl hd K hK=>h a w hb hl hd K Q (by rw[hdst]at hK;exact hK _ _ (Below.refl _ _) (eq_put hs hlt))
end
theorem bup1{W w:World}(h:Below W.heap.size W w){p:Addr}{v:Value}(hc:W.cell? p=some v):w.cell? p=some v:=cell_up h hc
def formedB(H:Hd):Bool:=(H.vb == 11) && decide (H.ch.size≤50) && decide (H.pr.size=20)
structure Hd.sized(H:Hd):Prop where
 bh:Sized H.bh.l
 bp:Sized H.bp.l
 hh:∀i,i<8→Sized (H.hh i).l
def ErrIf(ok:Bool)(w:World)(e:Ending)(w':World):Prop:=
 (ok=true∧e=.returned .nilIface∨ok=false∧∃a:Addr,e=.returned (.iface 166 (.pointer (some a))))∧Below w.heap.size w w'
theorem ErrIf.yes{ok:Bool}{w w':World}(h:ok=true)(hb:Below w.heap.size w w'):ErrIf ok w (.returned .nilIface) w':=⟨.inl ⟨h,rfl⟩,hb⟩
theorem ErrIf.no{ok:Bool}{w w':World}{a:Addr}(h:ok=false)(hb:Below w.heap.size w w'):ErrIf ok w (.returned (.iface 166 (.pointer (some a)))) w':=⟨.inr ⟨h,a,rfl⟩,hb⟩
theorem c_HValid(H:Hd)(ps:HSl)(w:World)(hht:0<H.ht)(hz:H.sized)(hpl:ps.l.length=H.pr.size):
  Calls Tryz.prog 91 #[.agg (H.pcells ps)] w fun e w'=>ErrIf (formedB H) w e w':=by
 suffices h:∀w0,Below w0.heap.size w0 w→Calls Tryz.prog 91 #[.agg (H.pcells ps)] w fun e w'=>ErrIf (formedB H) w0 e w' from h w (bz_refl w)
 intro w0 hB;refine enter_abs Tryz.func91 rfl 82 rfl (by simp) ?_;intro a hs hd hargs;have s0:=hargs 0 _ rfl;clear hargs;refine wp_seq ?_;refine wp_region_list ?_;show wpList _ _ _ [_,_] _ _
 refine tail_op rfl (fun K hK=>?_);have q0:=gd s0;go_simp;clear q0;refine hK _ _ ?_;clear hK K;refine act_put (d:=1) _ hs hd (by decide) [(0,_)] ⟨s0,trivial⟩ rfl ?_;clear hs hd s0;intro a hs hd zl;obtain⟨g,hE⟩:∃B,Is w.heap.size B:=is_self _;generalize hw1:World.alloc w _=w1;have hg:Blk w1 g 152 (H.pcells ps):=by rw[← hw1,← hE.out];exact Blk.new w _ _
 have hB1:Below w.heap.size w w1:=by rw[← hw1];exact bz_alloc (bz_refl w) _
 replace hB:=bz_then hB hB1;obtain⟨s1,s0,-⟩:=zl;rw[hE.out]at s1;clear hw1 hB1 hE;refine tail_op rfl (fun K hK=>?_);go_simp;refine hK _ _ ?_;clear hK K;refine act_put (d:=2) _ hs hd (by decide) [(0,_),(1,_)] ⟨s0,s1,trivial⟩ rfl ?_;clear hs hd s0 s1;intro a hs hd zl;have c0:w1.cell? ⟨g,0,none⟩=some (.int .u64 H.vb):=by rw[hg.cell];rfl
 have c2:w1.cell? ⟨g,2,none⟩=some (.string H.ch):=by rw[hg.cell];rfl
 have c3:w1.cell? ⟨g,3,none⟩=some (.int .i64 H.ht):=by rw[hg.cell];rfl
 by_cases h1:H.vb=11
 ·by_cases h2:H.ch.size≤50
  ·by_cases h3:H.pr.size=20
   ·have e1:(H.vb == 11)=true:=by rw[h1];rfl
    have e1':(H.vb != 11)=false:=by rw[h1];rfl
    have e2:decide (50<H.ch.size)=false:=decide_eq_false (by omega);have e2':decide ((50:Int)<(H.ch.size:Int))=false:=decide_eq_false (by omega);have e3:decide (H.ht<0)=false:=decide_eq_false (by omega);have e4:(H.ht == 0)=false:=by rw[beq_eq_false_iff_ne];omega
    have e5:((ps.l.length:Int) != 20)=false:=by rw[hpl,h3];rfl
    refine wn 15 ?_;clear hs hd zl;intro a hs hd zl;refine tail_op rfl (fun K hK=>?_);have q29:=gL zl 0;have s29:=vL zl 0;refine op_load_part 117 (.tmp 29) rfl g 6 s29 _ _ #[H.bh.v,.int .u32 H.bt,H.bp.v] _ hg (show(6+3:Nat)≤18 by decide) rfl rfl (by kernel_rfl) rfl ?_;clear q29;refine hK _ _ (tP hs hd zl ?_);clear hK K hs hd zl s29;intro a hs hd zl;refine tail_op rfl (fun K hK=>?_);have q30:=gL zl 0;unfold HSl.v at q30;go_simp;refine(c_bidV H.bt H.bh.A H.bp.A H.bh.c H.bp.c H.bh.l H.bp.l _ hz.bh hz.bp).mono ?_;rintro e w4 ⟨rfl,hb2⟩;clear q30;refine hK _ _ (tP hs hd zl ?_);clear hK K hs hd zl;intro a hs hd zl;replace hB:=bz_then hB hb2;replace hg:=hg.after hb2;clear hb2 c0 c2 c3;refine wn 3 ?_;clear hs hd zl;intro a hs hd zl;refine wp_cond_false (vL zl 0) ?_;refine wp_skip ?_;refine wp_seq ?_;refine wp_seq ?_;have cc:w4.cell? ⟨g,9,none⟩=some (.slice (H.hh 0).A (H.hh 0).l.length (H.hh 0).c):=by rw[hg.cell];rfl
    refine wn 2 ?_;clear hs hd zl;intro a hs hd zl;refine tail_op rfl (fun K hK=>?_);have q36:=gL zl 0;go_simp;refine(c_vHash (H.hh 0).A (H.hh 0).c (H.hh 0).l _ (hz.hh 0 (by decide))).mono ?_;rintro e w3 ⟨rfl,hw3⟩;obtain rfl:=hw3.symm;clear q36;refine hK _ _ (tP hs hd zl ?_);clear hK K hs hd zl;intro a hs hd zl;refine wn 1 ?_;clear hs hd zl;intro a hs hd zl;clear cc;refine wn 2 ?_;clear hs hd zl;intro a hs hd zl;refine wp_cond_false (vL zl 0) ?_;refine wp_skip ?_;refine wp_seq ?_;refine wp_seq ?_;have cc:w4.cell? ⟨g,10,none⟩=some (.slice (H.hh 1).A (H.hh 1).l.length (H.hh 1).c):=by rw[hg.cell];rfl
    refine wn 2 ?_;clear hs hd zl;intro a hs hd zl;refine tail_op rfl (fun K hK=>?_);have q42:=gL zl 0;go_simp;refine(c_vHash (H.hh 1).A (H.hh 1).c (H.hh 1).l _ (hz.hh 1 (by decide))).mono ?_;rintro e w3 ⟨rfl,hw3⟩;obtain rfl:=hw3.symm;clear q42;refine hK _ _ (tP hs hd zl ?_);clear hK K hs hd zl;intro a hs hd zl;refine wn 1 ?_;clear hs hd zl;intro a hs hd zl;clear cc;refine wn 2 ?_;clear hs hd zl;intro a hs hd zl;refine wp_cond_false (vL zl 0) ?_;refine wp_skip ?_;refine wp_seq ?_;refine wp_seq ?_;have cc:w4.cell? ⟨g,16,none⟩=some (.slice (H.hh 7).A (H.hh 7).l.length (H.hh 7).c):=by rw[hg.cell];rfl
    refine wn 2 ?_;clear hs hd zl;intro a hs hd zl;refine tail_op rfl (fun K hK=>?_);have q48:=gL zl 0;go_simp;refine(c_vHash (H.hh 7).A (H.hh 7).c (H.hh 7).l _ (hz.hh 7 (by decide))).mono ?_;rintro e w3 ⟨rfl,hw3⟩;obtain rfl:=hw3.symm;clear q48;refine hK _ _ (tP hs hd zl ?_);clear hK K hs hd zl;intro a hs hd zl;refine wn 1 ?_;clear hs hd zl;intro a hs hd zl;clear cc;refine wn 2 ?_;clear hs hd zl;intro a hs hd zl;refine wp_cond_false (vL zl 0) ?_;refine wp_skip ?_;refine wp_seq ?_;refine wp_seq ?_;have cc:w4.cell? ⟨g,17,none⟩=some (.slice (ps).A (ps).l.length (ps).c):=by rw[hg.cell];rfl
    refine wn 4 ?_;clear hs hd zl;intro a hs hd zl;clear cc;refine wp_cond_false (vL zl 0) ?_;refine wp_skip ?_;refine wp_seq ?_;refine wp_seq ?_;have cc:w4.cell? ⟨g,11,none⟩=some (.slice (H.hh 2).A (H.hh 2).l.length (H.hh 2).c):=by rw[hg.cell];rfl
    refine wp_region_list ?_;show wpList _ _ _ [_,_,_,_] _ _
    refine tail_op rfl (fun K hK=>?_);have q1:=gL zl 44;go_simp;clear q1;refine hK _ _ ?_;clear hK K;obtain⟨s56,-,-,-,-,-,-,-,-,-,-,-,-,-,-,-,-,-,-,-,-,-,-,-,-,-,-,-,-,-,-,-,-,-,-,-,-,-,-,-,-,-,s2,-,s1,-⟩:=zl;refine act_put (d:=58) _ hs hd (by decide) [(1,_),(2,_),(56,_)] ⟨s1,s2,s56,trivial⟩ rfl ?_;clear hs hd s1 s2 s56;intro a hs hd zl;refine wn 1 ?_;clear hs hd zl;intro a hs hd zl;refine tail_op rfl (fun K hK=>?_);have q59:=gL zl 0;go_simp;refine(c_vHash (H.hh 2).A (H.hh 2).c (H.hh 2).l _ (hz.hh 2 (by decide))).mono ?_;rintro e w3 ⟨rfl,hw3⟩;obtain rfl:=hw3.symm;clear q59;refine hK _ _ (tP hs hd zl ?_);clear hK K hs hd zl;intro a hs hd zl;refine wn 1 ?_;clear hs hd zl;intro a hs hd zl;clear cc;refine wn 2 ?_;clear hs hd zl;intro a hs hd zl;refine wp_cond_false (vL zl 0) ?_;refine wp_skip ?_;refine wp_seq ?_;refine wp_seq ?_;have cc:w4.cell? ⟨g,12,none⟩=some (.slice (H.hh 3).A (H.hh 3).l.length (H.hh 3).c):=by rw[hg.cell];rfl
    refine wn 2 ?_;clear hs hd zl;intro a hs hd zl;refine tail_op rfl (fun K hK=>?_);have q65:=gL zl 0;go_simp;refine(c_vHash (H.hh 3).A (H.hh 3).c (H.hh 3).l _ (hz.hh 3 (by decide))).mono ?_;rintro e w3 ⟨rfl,hw3⟩;obtain rfl:=hw3.symm;clear q65;refine hK _ _ (tP hs hd zl ?_);clear hK K hs hd zl;intro a hs hd zl;refine wn 1 ?_;clear hs hd zl;intro a hs hd zl;clear cc;refine wn 2 ?_;clear hs hd zl;intro a hs hd zl;refine wp_cond_false (vL zl 0) ?_;refine wp_skip ?_;refine wp_seq ?_;refine wp_seq ?_;have cc:w4.cell? ⟨g,13,none⟩=some (.slice (H.hh 4).A (H.hh 4).l.length (H.hh 4).c):=by rw[hg.cell];rfl
    refine wn 2 ?_;clear hs hd zl;intro a hs hd zl;refine tail_op rfl (fun K hK=>?_);have q71:=gL zl 0;go_simp;refine(c_vHash (H.hh 4).A (H.hh 4).c (H.hh 4).l _ (hz.hh 4 (by decide))).mono ?_;rintro e w3 ⟨rfl,hw3⟩;obtain rfl:=hw3.symm;clear q71;refine hK _ _ (tP hs hd zl ?_);clear hK K hs hd zl;intro a hs hd zl;refine wn 1 ?_;clear hs hd zl;intro a hs hd zl;clear cc;refine wn 2 ?_;clear hs hd zl;intro a hs hd zl;refine wp_cond_false (vL zl 0) ?_;refine wp_skip ?_;refine wp_seq ?_;refine wp_seq ?_;have cc:w4.cell? ⟨g,15,none⟩=some (.slice (H.hh 6).A (H.hh 6).l.length (H.hh 6).c):=by rw[hg.cell];rfl
    refine wn 2 ?_;clear hs hd zl;intro a hs hd zl;refine tail_op rfl (fun K hK=>?_);have q77:=gL zl 0;go_simp;refine(c_vHash (H.hh 6).A (H.hh 6).c (H.hh 6).l _ (hz.hh 6 (by decide))).mono ?_;rintro e w3 ⟨rfl,hw3⟩;obtain rfl:=hw3.symm;clear q77;refine hK _ _ (tP hs hd zl ?_);clear hK K hs hd zl;intro a hs hd zl;refine wn 1 ?_;clear hs hd zl;intro a hs hd zl;clear cc;refine wn 2 ?_;clear hs hd zl;intro a hs hd zl;refine wp_cond_false (vL zl 0) ?_;refine wp_skip ?_;refine wp_seq ?_;refine wp_region_list ?_;show wpList _ _ _ [_] _ _
    refine tail_op rfl (fun K hK=>?_);go_simp;refine hK _ _ ?_;clear hK K;obtain⟨s80,-,-,-,-,-,-,-,-,-,-,-,-,-,-,-,-,-,-,-,-,-,-,-,s1,s2,-,-⟩:=zl;refine act_put (d:=2) _ hs hd (by decide) [(1,_),(80,_)] ⟨s1,s80,trivial⟩ rfl ?_;clear hs hd s1 s2 s80;intro a hs hd zl;refine wp_ret ?_;exact end_tmp rfl hd (vL zl 0) (ErrIf.yes (by simp[formedB,h1,h2,h3]) hB)
   ·have e1:(H.vb == 11)=true:=by rw[h1];rfl
    have e1':(H.vb != 11)=false:=by rw[h1];rfl
    have e2:decide (50<H.ch.size)=false:=decide_eq_false (by omega);have e2':decide ((50:Int)<(H.ch.size:Int))=false:=decide_eq_false (by omega);have e3:decide (H.ht<0)=false:=decide_eq_false (by omega);have e4:(H.ht == 0)=false:=by rw[beq_eq_false_iff_ne];omega
    have e5:((H.pr.size:Int) != 20)=true:=by rw[bne_iff_ne];omega
    refine wn 15 ?_;clear hs hd zl;intro a hs hd zl;refine tail_op rfl (fun K hK=>?_);have q29:=gL zl 0;have s29:=vL zl 0;refine op_load_part 117 (.tmp 29) rfl g 6 s29 _ _ #[H.bh.v,.int .u32 H.bt,H.bp.v] _ hg (show(6+3:Nat)≤18 by decide) rfl rfl (by kernel_rfl) rfl ?_;clear q29;refine hK _ _ (tP hs hd zl ?_);clear hK K hs hd zl s29;intro a hs hd zl;refine tail_op rfl (fun K hK=>?_);have q30:=gL zl 0;unfold HSl.v at q30;go_simp;refine(c_bidV H.bt H.bh.A H.bp.A H.bh.c H.bp.c H.bh.l H.bp.l _ hz.bh hz.bp).mono ?_;rintro e w4 ⟨rfl,hb2⟩;clear q30;refine hK _ _ (tP hs hd zl ?_);clear hK K hs hd zl;intro a hs hd zl;replace hB:=bz_then hB hb2;replace hg:=hg.after hb2;clear hb2 c0 c2 c3;refine wn 3 ?_;clear hs hd zl;intro a hs hd zl;refine wp_cond_false (vL zl 0) ?_;refine wp_skip ?_;refine wp_seq ?_;refine wp_seq ?_;have cc:w4.cell? ⟨g,9,none⟩=some (.slice (H.hh 0).A (H.hh 0).l.length (H.hh 0).c):=by rw[hg.cell];rfl
    refine wn 2 ?_;clear hs hd zl;intro a hs hd zl;refine tail_op rfl (fun K hK=>?_);have q36:=gL zl 0;go_simp;refine(c_vHash (H.hh 0).A (H.hh 0).c (H.hh 0).l _ (hz.hh 0 (by decide))).mono ?_;rintro e w3 ⟨rfl,hw3⟩;obtain rfl:=hw3.symm;clear q36;refine hK _ _ (tP hs hd zl ?_);clear hK K hs hd zl;intro a hs hd zl;refine wn 1 ?_;clear hs hd zl;intro a hs hd zl;clear cc;refine wn 2 ?_;clear hs hd zl;intro a hs hd zl;refine wp_cond_false (vL zl 0) ?_;refine wp_skip ?_;refine wp_seq ?_;refine wp_seq ?_;have cc:w4.cell? ⟨g,10,none⟩=some (.slice (H.hh 1).A (H.hh 1).l.length (H.hh 1).c):=by rw[hg.cell];rfl
    refine wn 2 ?_;clear hs hd zl;intro a hs hd zl;refine tail_op rfl (fun K hK=>?_);have q42:=gL zl 0;go_simp;refine(c_vHash (H.hh 1).A (H.hh 1).c (H.hh 1).l _ (hz.hh 1 (by decide))).mono ?_;rintro e w3 ⟨rfl,hw3⟩;obtain rfl:=hw3.symm;clear q42;refine hK _ _ (tP hs hd zl ?_);clear hK K hs hd zl;intro a hs hd zl;refine wn 1 ?_;clear hs hd zl;intro a hs hd zl;clear cc;refine wn 2 ?_;clear hs hd zl;intro a hs hd zl;refine wp_cond_false (vL zl 0) ?_;refine wp_skip ?_;refine wp_seq ?_;refine wp_seq ?_;have cc:w4.cell? ⟨g,16,none⟩=some (.slice (H.hh 7).A (H.hh 7).l.length (H.hh 7).c):=by rw[hg.cell];rfl
    refine wn 2 ?_;clear hs hd zl;intro a hs hd zl;refine tail_op rfl (fun K hK=>?_);have q48:=gL zl 0;go_simp;refine(c_vHash (H.hh 7).A (H.hh 7).c (H.hh 7).l _ (hz.hh 7 (by decide))).mono ?_;rintro e w3 ⟨rfl,hw3⟩;obtain rfl:=hw3.symm;clear q48;refine hK _ _ (tP hs hd zl ?_);clear hK K hs hd zl;intro a hs hd zl;refine wn 1 ?_;clear hs hd zl;intro a hs hd zl;clear cc;refine wn 2 ?_;clear hs hd zl;intro a hs hd zl;refine wp_cond_false (vL zl 0) ?_;refine wp_skip ?_;refine wp_seq ?_;refine wp_seq ?_;have cc:w4.cell? ⟨g,17,none⟩=some (.slice (ps).A (ps).l.length (ps).c):=by rw[hg.cell];rfl
    refine wn 4 ?_;clear hs hd zl;intro a hs hd zl;clear cc;refine wp_cond_true (vL zl 0) ?_;refine wp_seq ?_;refine wp_region_list ?_;show wpList _ _ _ [_,_] _ _
    refine tail_op rfl (fun K hK=>?_);go_simp;refine(c_errNew _ _).mono ?_;rintro e w5 ⟨ad,rfl,hb2⟩;refine hK _ _ ?_;clear hK K;obtain⟨s56,-,-,-,-,-,-,-,-,-,-,-,-,-,-,-,-,-,-,-,-,-,-,-,-,-,-,-,-,-,-,-,-,-,-,-,-,-,-,-,-,-,s2,-,s1,-⟩:=zl;refine act_put (d:=57) _ hs hd (by decide) [(1,_),(2,_),(56,_)] ⟨s1,s2,s56,trivial⟩ rfl ?_;clear hs hd s1 s2 s56;intro a hs hd zl;replace hB:=bz_then hB hb2;clear hb2;refine tail_op rfl (fun K hK=>?_);have q57:=gL zl 0;go_simp;clear q57;refine hK _ _ ?_;clear hK K;obtain⟨s57,s1,s2,s56,-⟩:=zl;refine act_put (d:=2) _ hs hd (by decide) [(1,_),(56,_),(57,_)] ⟨s1,s56,s57,trivial⟩ rfl ?_;clear hs hd s1 s2 s56 s57;intro a hs hd zl;refine wp_ret ?_;repeat first|refine then_ret ?_|refine inBlock_ret ?_
    exact end_tmp rfl hd (vL zl 0) (ErrIf.no (by simp[formedB,h3]) hB)
  ·have e1':(H.vb != 11)=false:=by rw[h1];rfl
   have e2:decide (50<H.ch.size)=true:=decide_eq_true (by omega);have e2':decide ((50:Int)<(H.ch.size:Int))=true:=decide_eq_true (by omega);refine wn 8 ?_;clear hs hd zl;intro a hs hd zl;refine wp_cond_true (vL zl 0) ?_;refine wp_seq ?_;refine wp_region_list ?_;show wpList _ _ _ [_,_] _ _
   refine tail_op rfl (fun K hK=>?_);go_simp;refine(c_errNew _ _).mono ?_;rintro e w5 ⟨ad,rfl,hb2⟩;refine hK _ _ (tP hs hd zl ?_);clear hK K hs hd zl;intro a hs hd zl;replace hB:=bz_then hB hb2;clear hb2;refine tail_op rfl (fun K hK=>?_);have q20:=gL zl 0;go_simp;clear q20;refine hK _ _ ?_;clear hK K;obtain⟨s20,s19,-,-,-,-,-,-,-,s2,-,s1,-⟩:=zl;refine act_put (d:=2) _ hs hd (by decide) [(1,_),(19,_),(20,_)] ⟨s1,s19,s20,trivial⟩ rfl ?_;clear hs hd s1 s2 s19 s20;intro a hs hd zl;refine wp_ret ?_;repeat first|refine then_ret ?_|refine inBlock_ret ?_
   exact end_tmp rfl hd (vL zl 0) (ErrIf.no (by simp[formedB,h2]) hB)
 ·have e1':(H.vb != 11)=true:=by rw[bne_iff_ne];exact h1
  refine wn 4 ?_;clear hs hd zl;intro a hs hd zl;refine wp_cond_true (vL zl 0) ?_;refine wp_seq ?_;refine wp_region_list ?_;show wpList _ _ _ [_,_] _ _
  refine tail_op rfl (fun K hK=>?_);go_simp;refine(c_errNew _ _).mono ?_;rintro e w5 ⟨ad,rfl,hb2⟩;refine hK _ _ (tP hs hd zl ?_);clear hK K hs hd zl;intro a hs hd zl;replace hB:=bz_then hB hb2;clear hb2;refine tail_op rfl (fun K hK=>?_);have q15:=gL zl 0;go_simp;clear q15;refine hK _ _ ?_;clear hK K;obtain⟨s15,s14,-,-,-,s2,-,s1,-⟩:=zl;refine act_put (d:=2) _ hs hd (by decide) [(1,_),(14,_),(15,_)] ⟨s1,s14,s15,trivial⟩ rfl ?_;clear hs hd s1 s2 s14 s15;intro a hs hd zl;refine wp_ret ?_;repeat first|refine then_ret ?_|refine inBlock_ret ?_
  exact end_tmp rfl hd (vL zl 0) (ErrIf.no (by simp[formedB,h1]) hB)
structure Sh where
 H:Hd
 ps:HSl
 gh:Nat
 C:Cm
 gc:Nat
def Sh.cells(s:Sh):Array Value:=#[.pointer (some ⟨s.gh,0,none⟩),.pointer (some ⟨s.gc,0,none⟩)]
structure Sh.at(s:Sh)(w:World):Prop where
 hb:Blk w s.gh 152 (s.H.pcells s.ps)
 hk:s.H.ok w
 hps:s.ps.ok w
 hc:s.C.at w s.gc
theorem Sh.at.after{s:Sh}{w w':World}(h:s.at w)(hb:Below w.heap.size w w'):s.at w':=⟨h.hb.after hb,h.hk.after hb,h.hps.after hb,h.hc.after hb⟩
structure Sh.wf(s:Sh):Prop where
 pl:s.ps.l=bytesOf s.H.pr
 num:s.H.num
 ht:0<s.H.ht
 sized:s.H.sized
 formed:formedB s.H=true
 vals:(s.H.hh 2).l.length=32
 cht:s.C.ht=s.H.ht
 rd:0≤s.C.rd
 sum:s.C.b.l=rootN 20 s.H.leaves
 sums:(s.C.b.l).length=32
 n0:0<s.C.S.length
 n1:s.C.S.length≤1000
 cs:∀c∈s.C.S,c.wf
theorem c_shV(s:Sh)(w:World)(hs':s.at w)(hwf:s.wf)(hKt:KTab w 1)(h0:1<w.heap.size):
  Calls Tryz.prog 82 #[.agg s.cells,.string s.H.ch] w fun e w'=>e=.returned .nilIface∧Below w.heap.size w w':=by
 obtain⟨H,ps,gh,C,gc⟩:=s;obtain⟨hbk,hk,hps,hc⟩:=hs';obtain⟨w1,w2,w3,w4,w5,w6,w7,w8,w9,w10,w11,w12,w13⟩:=hwf;simp only at hbk hk hps hc w1 w2 w3 w4 w5 w6 w7 w8 w9 w10 w11 w12 w13;refine en (sz:=65) rfl rfl rfl fun a hs hd zl=>?_;have hB:=bz_refl w
 unfold Sh.cells at zl;simp only at zl;obtain⟨ht,hHT⟩:∃n,Is H.ht n:=is_self _;have HW7:=Is.hid w7;have HW1:=Is.hid w1;have HW5:=Is.hid w5;have HW6:=Is.hid w6;have HW9:=Is.hid w9;have HW10:=Is.hid w10;clear w7 w1 w5 w6 w9 w10;have c1:w.cell? ⟨gh,2,none⟩=some (.string H.ch):=hbk.cell 2;have c2:w.cell? ⟨gh,3,none⟩=some (.int .i64 ht):=by rw[← hHT.out];exact hbk.cell 3
 have c3:w.cell? ⟨gc,0,none⟩=some (.int .i64 ht):=by rw[← hHT.out,← HW7.out];exact hc.blk.cell 0
 have c4:w.cell? ⟨gc,2,none⟩=some (.slice C.b.A C.b.l.length C.b.c):=hc.blk.cell 2;have lh:=hbk.lt;have lc:=hc.blk.lt;refine wp_seq (wp_region_list ?_);refine ta hs hd zl ?_;intro g2 u hg2 hge2 hb;clear hs hd zl;intro a hs hd zl;replace hB:=bz_then hB hb;(try clear hup);have hup:=bup hB;clear hb;have d0:u.cell? ⟨g2,0,none⟩=some (.pointer (some ⟨gh,0,none⟩)):=hg2.cell 0;have d1:u.cell? ⟨g2,1,none⟩=some (.pointer (some ⟨gc,0,none⟩)):=hg2.cell 1;refine wW ?_;clear hs hd zl;intro a hs hd zl;refine tk hs hd zl (fun K Q hK=>op_load_row 152 (.tmp 19) rfl gh (sl zl 19) _ (H.pcells ps) _ (hbk.after hB) rfl rfl (by kernel_rfl) hK) ?_;clear hs hd zl;intro a hs hd zl;refine tc (c_HValid H ps u w3 w4 (by rw[HW1.out,bytesOf_length])) hs hd zl ?_;rintro _ u ⟨he,hb⟩;rcases he with⟨-,rfl⟩|⟨hf,-⟩
 case inr=>rw[HW5.out]at hf;cases hf
 refine⟨_,rfl,?_⟩;clear hs hd zl;intro a hs hd zl;replace d0:=cell_up hb d0;replace d1:=cell_up hb d1;replace hg2:=hg2.after hb;replace hB:=bz_then hB hb;(try clear hup);have hup:=bup hB;clear hb;refine wW ?_;clear hs hd zl;intro a hs hd zl;refine tc (c_cmV C gc u (hc.after hB) ⟨by rw[HW7.out];exact w3,by rw[HW7.out];exact w2.ht.2⟩ w8 (by rw[HW10.out];decide) w11 w12 w13) hs hd zl ?_;rintro _ u ⟨rfl,hb⟩;refine⟨_,rfl,?_⟩;clear hs hd zl;intro a hs hd zl;replace d0:=cell_up hb d0;replace d1:=cell_up hb d1;replace hg2:=hg2.after hb;have l2:=hg2.lt;replace hB:=bz_then hB hb;(try clear hup);have hup:=bup hB;clear hb;refine wW ?_;clear hs hd zl;intro a hs hd zl;replace zl:=kp [1,2,4] zl
 (try change Code.wp _ _ _ _ _);refine fx [(39,_),(40,_),(41,_),(42,_),(43,_),(44,_),(45,_),(46,_),(47,_),(48,_)] 10 hs hd zl ?_;clear hs hd zl;intro a u hb hs hd zl
 replace d0:=cell_up hb d0;replace d1:=cell_up hb d1;replace hg2:=hg2.after hb;replace l2:=hg2.lt;replace hB:=bz_then hB hb;(try clear hup);have hup:=bup hB;clear hb;refine wW ?_;clear hs hd zl;intro a hs hd zl;have hlr:(rootN 20 H.leaves).length=32:=by rw[← HW9.out];exact HW10.out
 have HLR:=Is.hid hlr;clear hlr c1 c2 c3;refine fxs [.inl (51,_),.inl (52,_),.inr (.bs 53 u.heap.size (rootN 20 H.leaves)),.inl (54,_),.inl (55,_),.inl (56,_),.inl (57,_),.inl (58,_),.inl (59,_),.inr (.bs 7 u.heap.size (rootN 20 H.leaves))] 10 hs hd zl (by(simp only[List.map_cons,List.map_nil,itS];(repeat' first|exact trivial|refine And.intro (sP bo) ?_|refine And.intro (sP (bcs (fun w' hb=>c_HHash H ps gh w' w2 (hbk.after (bz_then hB hb)) (hk.after (bz_then hB hb)) (hps.after (bz_then hB hb)) HW1.out (by rw[HW6.out];rfl) (hKt.after (bz_then hB hb)) (Nat.lt_of_lt_of_le h0 (bz_then hB hb).size)) (Nat.le_refl _))) ?_|refine And.intro (sP (bmv 2)) ?_))) ?_;clear hs hd zl;intro a u hb hs hd zl hh;obtain⟨-,h53,-⟩:=hh;obtain⟨l',A,c,hl',e53,hfm,hcap,hbs,-⟩:=FItem.bs_holds.1 h53;have hl2:l'=rootN 20 H.leaves:=hl'.out;subst hl2;replace zl:LiveAll ((7,_)::_) a:=⟨e53,zl⟩;replace zl:=kp [4,7,59] zl;replace hB:=bz_then hB hb;(try clear hup);have hup:=bup hB;clear hb;clear h53 e53 hl' d0 d1;refine wW ?_;clear hs hd zl;intro a hs hd zl;have e3:decide (rootN 20 H.leaves=C.b.l)=true:=decide_eq_true HW9.out.symm;refine tc (c_bEqual A C.b.A c C.b.c (rootN 20 H.leaves) C.b.l u hfm hbs (rootN_bytes 20 H.leaves) (hc.b.after hB).fm (hc.b.after hB).bs hc.b.b8) hs hd zl ?_;rintro _ u ⟨rfl,rfl⟩;refine⟨_,rfl,?_⟩;rw[e3];clear hs hd zl;intro a hs hd zl;clear e3;refine wW ?_;clear hs hd zl;intro a hs hd zl;refine wp_ret ?_;(repeat first|refine then_ret ?_|refine inBlock_ret ?_);exact end_tmp rfl hd (sl zl 4) ⟨rfl,hB⟩
def addS(s n d:Int):Int:=if n+d % 1000000000≥1000000000 then s+d / 1000000000+1 else s+d / 1000000000
def addN(n d:Int):Int:=if n+d % 1000000000≥1000000000 then n+d % 1000000000-1000000000 else n+d % 1000000000
theorem c_Add(s n d:Int)(w:World)(hs:0≤s∧s≤9000000000000000000)(hn:0≤n∧n<1000000000)(hd:0≤d∧d≤9000000000000000000):
  Calls Tryz.prog 71 #[.agg #[.int .i64 s,.int .i32 n],.int .i64 d] w fun e w'=>e=.returned (.agg #[.int .i64 (addS s n d),.int .i32 (addN n d)])∧Below w.heap.size w w':=by
 by_cases h1:n+d % 1000000000≥1000000000
 ·go_enter Tryz.func71,Tryz.ntmps71
  go_wp2
  go_quiet (fail)
  go_wp2
  exact bodyPost_ret (v:=.agg #[.int .i64 (s+d / 1000000000+1),.int .i32 (n+d % 1000000000-1000000000)]) (by simp[results,Tryz.results71,go_sem]) rfl ⟨by unfold addS addN;rw[if_pos h1,if_pos h1],
   by(repeat' (first|exact Below.refl _ _|exact Nat.le_refl _|(with_reducible assumption)|refine Below.setCell ?_ ?_ _|refine Below.alloc ?_ ?_ _|refine below_drewN ?_ _|refine Below.drew ?_|(simp;done)|omega|(simp;omega)|(simp at *;omega)))⟩
 ·go_enter Tryz.func71,Tryz.ntmps71
  go_wp2
  go_quiet (fail)
  go_wp2
  exact bodyPost_ret (v:=.agg #[.int .i64 (s+d / 1000000000),.int .i32 (n+d % 1000000000)]) (by simp[results,Tryz.results71,go_sem]) rfl ⟨by unfold addS addN;rw[if_neg (by omega),if_neg (by omega)],
   by(repeat' (first|exact Below.refl _ _|exact Nat.le_refl _|(with_reducible assumption)|refine Below.setCell ?_ ?_ _|refine Below.alloc ?_ ?_ _|refine below_drewN ?_ _|refine Below.drew ?_|(simp;done)|omega|(simp;omega)|(simp at *;omega)))⟩
theorem c_hExp(s:Sh)(g:Nat)(d ts tn:Int)(w:World)(hg:Blk w g 128 s.cells)(hs':s.at w)(hn:s.H.num)(hd1:0≤d∧d≤9000000000000000000):
  Calls Tryz.prog 70 #[.pointer (some ⟨g,0,none⟩),.int .i64 d,.agg #[.int .i64 ts,.int .i32 tn]] w fun e w'=>e=.returned (.bool (!laterB (addS (s.H.sec+62135596800) s.H.ns d) (addN s.H.ns d) ts tn))∧Below w.heap.size w w':=by
 refine en (sz:=21) rfl rfl rfl fun a hs hd zl=>?_;have hB:=bz_refl w
 refine wp_seq (wp_region_list ?_);refine ta hs hd zl ?_;intro g5 u hg5 hge5 hb;clear hs hd zl;intro a hs hd zl;replace hB:=bz_then hB hb;(try clear hup);have hup:=bup hB;clear hb;have c0:w.cell? ⟨g,0,none⟩=some (.pointer (some ⟨s.gh,0,none⟩)):=hg.cell 0;have lg:=hg.lt;refine wW ?_;clear hs hd zl;intro a hs hd zl;refine tk hs hd zl (fun K Q hK=>op_load_part 80 (.tmp 13) rfl s.gh 4 (sl zl 13) _ _ #[.int .i64 (s.H.sec+62135596800),.int .i32 s.H.ns] _ (hs'.hb.after hB) (show(4+2:Nat)≤18 by decide) rfl rfl (by kernel_rfl) rfl hK) ?_;clear hs hd zl;intro a hs hd zl;refine wW ?_;clear hs hd zl;intro a hs hd zl;have h1:=hn.sec;have h2:=hn.ns;refine tc (c_Add (s.H.sec+62135596800) s.H.ns d u (by omega) (by omega) hd1) hs hd zl ?_;rintro _ u2 ⟨rfl,hb⟩;refine⟨_,rfl,?_⟩;clear hs hd zl;intro a hs hd zl;replace hg5:=hg5.after hb;replace hB:=bz_then hB hb;clear hb hup;refine tas (cs:=#[.int .i64 _,.int .i32 _]) hs hd zl (fun v hv=>by simp only[List.mem_cons,List.not_mem_nil,or_false]at hv;rcases hv with rfl|rfl <;> rfl) ?_;intro g7 u3 hg7 hge7 hb;clear hs hd zl;intro a hs hd zl;replace hg5:=hg5.after hb;replace hB:=bz_then hB hb;clear hb
 (repeat first|refine wp_seq ?_|refine wp_block ?_|refine wp_region_list ?_|(refine tx hs hd zl ?_;clear hs hd zl;intro a hs hd zl)|(refine tn hs hd zl ?_;clear hs hd zl;intro a hs hd zl)|refine ct zl ?_|refine cf zl ?_|refine wp_skip ?_)
 refine tk hs hd zl (fun K Q hK=>op_load_row 80 (.tmp 7) rfl g7 (sl zl 7) _ _ _ hg7 rfl rfl (by kernel_rfl) hK) ?_;clear hs hd zl;intro a hs hd zl;refine tk hs hd zl (fun K Q hK=>op_load_row 80 (.tmp 5) rfl g5 (sl zl 5) _ _ _ hg5 rfl rfl (by kernel_rfl) hK) ?_;clear hs hd zl;intro a hs hd zl;refine tc (c_After _ _ _ _ u3) hs hd zl ?_;rintro _ u4 ⟨rfl,hb⟩;refine⟨_,rfl,?_⟩;clear hs hd zl;intro a hs hd zl;refine wW ?_;clear hs hd zl;intro a hs hd zl;refine wp_ret ?_;(repeat first|refine then_ret ?_|refine inBlock_ret ?_);exact end_tmp rfl hd (sl zl 6) ⟨rfl,bz_then hB hb⟩
structure NewOk(s1 s0:Sh)(V:List Vl)(ts tn d:Int):Prop where
 ch:s1.H.ch=s0.H.ch
 af:s0.H.ht<s1.H.ht→laterB (s1.H.sec+62135596800) s1.H.ns (s0.H.sec+62135596800) s0.H.ns=true
 be:laterB (addS ts tn d) (addN tn d) (s1.H.sec+62135596800) s1.H.ns=true
 vh:(s1.H.hh 2).l=rootN 20 (vLeaves V)
structure NewAt(s1 s0:Sh)(V:Vs)(g1 g0 gv:Nat)(w:World):Prop where
 g1:Blk w g1 128 s1.cells
 s1:s1.at w
 g0:Blk w g0 128 s0.cells
 s0:s0.at w
 gv:Blk w gv 157 V.cells
 V:V.in_ w
 kt:KTab w 1
 k0:1<w.heap.size
theorem NewAt.after{s1 s0:Sh}{V:Vs}{g1 g0 gv:Nat}{w w':World}(h:NewAt s1 s0 V g1 g0 gv w)(hb:Below w.heap.size w w'):NewAt s1 s0 V g1 g0 gv w':=
 ⟨h.g1.after hb,h.s1.after hb,h.g0.after hb,h.s0.after hb,h.gv.after hb,h.V.after hb,h.kt.after hb,Nat.lt_of_lt_of_le h.k0 hb.size⟩
structure VlsOk(V:Vs):Prop where
 p:∀v∈V.V,0<v.p∧v.p≤1000000
 sm:Small (vLeaves V.V)
 n:V.P.length≤20
 n0:0<V.P.length
theorem c_vnh(s1 s0:Sh)(V:Vs)(g1 g0 gv:Nat)(ts tn d:Int)(w:World)(hA:NewAt s1 s0 V g1 g0 gv w)(hwf:s1.wf)(hn0:s0.H.num)(hV:VlsOk V)(hok:NewOk s1 s0 V.V ts tn d)(hts:0≤ts∧ts≤9000000000000000000)(htn:0≤tn∧tn<1000000000)(hd1:0≤d∧d≤9000000000000000000):
  Calls Tryz.prog 72 #[.pointer (some ⟨g1,0,none⟩),.pointer (some ⟨gv,0,none⟩),.pointer (some ⟨g0,0,none⟩),.agg #[.int .i64 ts,.int .i32 tn],.int .i64 d] w fun e w'=>((s0.H.ht<s1.H.ht∧e=.returned .nilIface)∨(s1.H.ht≤s0.H.ht∧∃q:Addr,e=.returned (.iface 166 (.pointer (some q)))))∧Below w.heap.size w w':=by
 refine en (sz:=84) rfl rfl rfl fun a hs hd zl=>?_;have hB:=bz_refl w
 have hch:=hok.ch;have c1:w.cell? ⟨g1,0,none⟩=some (.pointer (some ⟨s1.gh,0,none⟩)):=hA.g1.cell 0;have c0:w.cell? ⟨g0,0,none⟩=some (.pointer (some ⟨s0.gh,0,none⟩)):=hA.g0.cell 0;obtain⟨t1,hT1⟩:∃n,Is s1.H.ht n:=is_self _;obtain⟨t0,hT0⟩:∃n,Is s0.H.ht n:=is_self _;have d1:w.cell? ⟨s1.gh,3,none⟩=some (.int .i64 t1):=by rw[← hT1.out];exact hA.s1.hb.cell 3
 have d0:w.cell? ⟨s0.gh,3,none⟩=some (.int .i64 t0):=by rw[← hT0.out];exact hA.s0.hb.cell 3
 have f0:w.cell? ⟨s0.gh,2,none⟩=some (.string s1.H.ch):=by rw[hch];exact hA.s0.hb.cell 2
 clear hch;have l1:=hA.g1.lt;have l0:=hA.g0.lt;have m1:=hA.s1.hb.lt;have m0:=hA.s0.hb.lt;refine wp_seq (wp_region_list ?_);refine ta hs hd zl ?_;intro g8 u hg8 hge8 hb;clear hs hd zl;intro a hs hd zl;replace hB:=bz_then hB hb;(try clear hup);have hup:=bup hB;clear hb;refine wW ?_;clear hs hd zl;intro a hs hd zl
 (try change Code.wp _ _ _ _ _);refine fx [(12,_),(13,_),(14,_),(15,_),(16,_),(17,_),(18,_),(19,_),(20,_),(21,_)] 10 hs hd zl ?_ (hstep:=by(simp only[List.map_cons,List.map_nil];(repeat' first|exact trivial|refine And.intro (sP bo) ?_|refine And.intro (sY bo) ?_|refine And.intro sN ?_|refine And.intro (sP (bk (v:=.agg s1.cells) (fun a u1 hb zl hd K Q hK=>op_load_row 128 (.tmp 13) rfl g1 (vD hd 1) _ s1.cells _ (hA.g1.after (bz_then hB hb)) rfl rfl (by kernel_rfl) hK))) ?_)));clear hs hd zl;intro a u hb hs hd zl
 replace hg8:=hg8.after hb;replace hB:=bz_then hB hb;(try clear hup);have hup:=bup hB;clear hb;refine tc (c_shV s1 u (hA.s1.after hB) hwf (hA.kt.after hB) (Nat.lt_of_lt_of_le hA.k0 hB.size)) hs hd zl ?_;rintro _ u ⟨rfl,hb⟩;refine⟨_,rfl,?_⟩;clear hs hd zl;intro a hs hd zl;replace hg8:=hg8.after hb;replace hB:=bz_then hB hb;(try clear hup);have hup:=bup hB;clear hb;replace zl:=kp [0,1,2,4,8,10,22] zl;have hsec1:=hwf.num.sec;have hsec0:=hn0.sec;have hn1s:=hwf.num.ns;have hHT:s0.H.ht<s1.H.ht↔t0<t1:=by rw[hT1.out,hT0.out]
 have HHT:=Is.hid hHT;have HHL:Kept (s1.H.ht≤s0.H.ht↔t1≤t0):=Is.hid (by rw[hT1.out,hT0.out]);clear hHT;by_cases hle:t1≤t0
 ·have e1:decide (t1≤t0)=true:=decide_eq_true hle;have HLE:=Is.hid hle;clear hle;refine wW ?_;clear hs hd zl;intro a hs hd zl
  (try change Code.wp _ _ _ _ _);refine fx [(26,_),(27,_),(28,_),(29,_),(30,_),(31,_),(32,_),(33,_),(34,_),(35,_),(36,_),(37,_),(38,_),(39,_)] 14 hs hd zl ?_;clear hs hd zl;intro a u hb hs hd zl
  replace hB:=bz_then hB hb;(try clear hup);have hup:=bup hB;clear hb;refine wW ?_;clear hs hd zl;intro a hs hd zl;refine tc (c_errNew _ u) hs hd zl ?_;rintro _ u ⟨q,rfl,hb⟩;refine⟨_,rfl,?_⟩;clear hs hd zl;intro a hs hd zl;replace hB:=bz_then hB hb;(try clear hup);have hup:=bup hB;clear hb;refine wW ?_;clear hs hd zl;intro a hs hd zl;refine wp_ret ?_;(repeat first|refine then_ret ?_|refine inBlock_ret ?_);exact end_tmp rfl hd (sl zl 10) ⟨.inr ⟨HHL.out.2 HLE.out,q,rfl⟩,hB⟩
 have e1:decide (t1≤t0)=false:=decide_eq_false hle;have HLT:Kept (t0<t1):=Is.hid (by omega);clear hle;refine wW ?_;clear hs hd zl;intro a hs hd zl
 (try change Code.wp _ _ _ _ _);refine fx [(26,_),(27,_),(28,_),(29,_),(30,_),(31,_),(32,_),(33,_),(34,_),(35,_),(36,_),(37,_),(38,_),(39,_)] 14 hs hd zl ?_;clear hs hd zl;intro a u hb hs hd zl
 replace hg8:=hg8.after hb;replace hB:=bz_then hB hb;(try clear hup);have hup:=bup hB;clear hb;refine wW ?_;clear hs hd zl;intro a hs hd zl;clear e1;replace zl:=kp [0,1,2,4,8,10] zl;have HAF:=Is.hid (hok.af (Int.not_le.1 fun h=>by have h1:=HHL.out.1 h;have h2:=HLT.out;omega));have HBE:=Is.hid hok.be
 (try change Code.wp _ _ _ _ _);refine fx [(42,_),(43,_),(44,_),(45,_),(46,_),(47,_),(48,_),(49,_),(50,_),(51,_),(52,_),(53,_),(54,_),(55,_)] 14 hs hd zl ?_ (hstep:=by(simp only[List.map_cons,List.map_nil];(repeat' first|exact trivial|refine And.intro (sP bo) ?_|refine And.intro (sY bo) ?_|refine And.intro sN ?_|refine And.intro (sP (bk (v:=.agg #[.int .i64 (s1.H.sec+62135596800),.int .i32 s1.H.ns]) (fun a u1 hb zl hd K Q hK=>op_load_part 80 (.tmp 47) rfl s1.gh 4 (vD hd 5) _ _ #[.int .i64 (s1.H.sec+62135596800),.int .i32 s1.H.ns] _ (hA.s1.hb.after (bz_then hB hb)) (show(4+2:Nat)≤18 by decide) rfl rfl (by kernel_rfl) rfl hK))) ?_|refine And.intro (sP (bk (v:=.agg #[.int .i64 (s0.H.sec+62135596800),.int .i32 s0.H.ns]) (fun a u1 hb zl hd K Q hK=>op_load_part 80 (.tmp 54) rfl s0.gh 4 (vD hd 12) _ _ #[.int .i64 (s0.H.sec+62135596800),.int .i32 s0.H.ns] _ (hA.s0.hb.after (bz_then hB hb)) (show(4+2:Nat)≤18 by decide) rfl rfl (by kernel_rfl) rfl hK))) ?_)));clear hs hd zl;intro a u hb hs hd zl
 replace hg8:=hg8.after hb;replace hB:=bz_then hB hb;(try clear hup);have hup:=bup hB;clear hb;refine tc (c_After (s1.H.sec+62135596800) s1.H.ns (s0.H.sec+62135596800) s0.H.ns u) hs hd zl ?_;rintro _ u ⟨rfl,hb⟩;refine⟨_,rfl,?_⟩;rw[HAF.out];clear hs hd zl;intro a hs hd zl;replace hg8:=hg8.after hb;replace hB:=bz_then hB hb;(try clear hup);have hup:=bup hB;clear hb;replace zl:=kp [0,1,2,4,8,10,56] zl;refine wW ?_;clear hs hd zl;intro a hs hd zl
 (try change Code.wp _ _ _ _ _);refine fx [(59,_),(60,_),(61,_),(62,_),(63,_),(64,_),(65,_),(66,_),(67,_),(68,_)] 10 hs hd zl ?_ (hstep:=by(simp only[List.map_cons,List.map_nil];(repeat' first|exact trivial|refine And.intro (sP bo) ?_|refine And.intro (sY bo) ?_|refine And.intro sN ?_|refine And.intro (sP (bk (v:=.agg #[.int .i64 (s1.H.sec+62135596800),.int .i32 s1.H.ns]) (fun a u1 hb zl hd K Q hK=>op_load_part 80 (.tmp 64) rfl s1.gh 4 (vD hd 5) _ _ #[.int .i64 (s1.H.sec+62135596800),.int .i32 s1.H.ns] _ (hA.s1.hb.after (bz_then hB hb)) (show(4+2:Nat)≤18 by decide) rfl rfl (by kernel_rfl) rfl hK))) ?_|refine And.intro (sP (bk (v:=.agg #[.int .i64 ts,.int .i32 tn]) (fun a u1 hb zl hd K Q hK=>op_load_row 80 (.tmp 8) rfl g8 (sl zl 8) _ _ _ (hg8.after hb) rfl rfl (by kernel_rfl) hK))) ?_|refine And.intro (sP (bc (v:=.agg #[.int .i64 (addS ts tn d),.int .i32 (addN tn d)]) (fun u1 hb1=>c_Add ts tn d u1 hts htn hd1))) ?_)));clear hs hd zl;intro a u hb hs hd zl
 replace hB:=bz_then hB hb;(try clear hup);have hup:=bup hB;clear hb;refine tc (c_Before (s1.H.sec+62135596800) s1.H.ns (addS ts tn d) (addN tn d) u) hs hd zl ?_;rintro _ u ⟨rfl,hb⟩;refine⟨_,rfl,?_⟩;rw[HBE.out];clear hs hd zl;intro a hs hd zl;replace hB:=bz_then hB hb;(try clear hup);have hup:=bup hB;clear hb;replace zl:=kp [0,1,2,4,10,69] zl;refine wW ?_;clear hs hd zl;intro a hs hd zl;have HVH:=Is.hid hok.vh;have c7:w.cell? ⟨s1.gh,11,none⟩=some (.slice (s1.H.hh 2).A (s1.H.hh 2).l.length (s1.H.hh 2).c):=hA.s1.hb.cell 11;change Code.wp _ _ _ _ _;refine fxs [.inl (72,_),.inl (73,_),.inl (74,_),.inl (75,_),.inl (76,_),.inl (77,_),.inl (78,_),.inl (79,_),.inr (.bs 80 u.heap.size (rootN 20 (vLeaves V.V)))] 9 hs hd zl (by(simp only[List.map_cons,List.map_nil,itS];(repeat' first|exact trivial|refine And.intro (sP bo) ?_|refine And.intro (sP (bcs (fun w' hb=>c_vsHash V gv w' (hA.gv.after (bz_then hB hb)) (hA.V.after (bz_then hB hb)) (fun v hv=>⟨by have:=(hV.p v hv).1;omega,by have:=(hV.p v hv).2;omega⟩) hV.sm hV.n (hA.kt.after (bz_then hB hb)) (Nat.lt_of_lt_of_le hA.k0 (bz_then hB hb).size)) (Nat.le_refl _))) ?_))) ?_;clear hs hd zl;intro a u hb hs hd zl hh;obtain⟨h80,-⟩:=hh;obtain⟨l',A,c,hl',e80,hfm,hcap,hbs,-⟩:=FItem.bs_holds.1 h80;have hl2:l'=rootN 20 (vLeaves V.V):=hl'.out;subst hl2;replace zl:LiveAll ((80,_)::_) a:=⟨e80,zl⟩;replace zl:=kp [10,78,80] zl;replace hB:=bz_then hB hb;(try clear hup);have hup:=bup hB;clear hb;clear h80 e80 hl';have e3:decide ((s1.H.hh 2).l=rootN 20 (vLeaves V.V))=true:=decide_eq_true HVH.out;have hk:=(hA.s1.hk.hh 2 (by decide)).after hB;refine tc (c_bEqual (s1.H.hh 2).A A (s1.H.hh 2).c c (s1.H.hh 2).l (rootN 20 (vLeaves V.V)) u hk.fm hk.bs hk.b8 hfm hbs (rootN_bytes 20 _)) hs hd zl ?_;rintro _ u ⟨rfl,rfl⟩;refine⟨_,rfl,?_⟩;rw[e3];clear hs hd zl;intro a hs hd zl;clear e3;refine wW ?_;clear hs hd zl;intro a hs hd zl;refine wp_ret ?_;(repeat first|refine then_ret ?_|refine inBlock_ret ?_);exact end_tmp rfl hd (sl zl 10) ⟨.inl ⟨HHT.out.2 HLT.out,rfl⟩,hB⟩
theorem c_ig1(s:CS)(w:World):Calls Tryz.prog 116 #[.agg s.cells.toArray] w fun e w'=>e=.returned (.bool (s.fl != 2))∧Below w.heap.size w w':=by
 refine en (sz:=6) rfl rfl rfl fun a hs hd zl=>?_;have hB:=bz_refl w
 refine wp_seq (wp_region_list ?_);refine ta hs hd zl ?_;intro g u hg hge hb;clear hs hd zl;intro a hs hd zl;replace hB:=bz_then hB hb;(try clear hup);have hup:=bup hB;clear hb;have c0:u.cell? ⟨g,0,none⟩=some (.int .u8 s.fl):=hg.cell 0;refine wW ?_;clear hs hd zl;intro a hs hd zl;refine wp_ret ?_;(repeat first|refine then_ret ?_|refine inBlock_ret ?_);exact end_tmp rfl hd (sl zl 2) ⟨rfl,hB⟩
theorem c_ig2(s:CS)(w:World):Calls Tryz.prog 122 #[.agg s.cells.toArray] w fun e w'=>e=.returned (.bool (s.fl != 2))∧Below w.heap.size w w':=by
 refine en (sz:=6) rfl rfl rfl fun a hs hd zl=>?_;have hB:=bz_refl w
 refine wp_seq (wp_region_list ?_);refine ta hs hd zl ?_;intro g u hg hge hb;clear hs hd zl;intro a hs hd zl;replace hB:=bz_then hB hb;(try clear hup);have hup:=bup hB;clear hb;have c0:u.cell? ⟨g,0,none⟩=some (.int .u8 s.fl):=hg.cell 0;refine wW ?_;clear hs hd zl;intro a hs hd zl;refine wp_ret ?_;(repeat first|refine then_ret ?_|refine inBlock_ret ?_);exact end_tmp rfl hd (sl zl 2) ⟨rfl,hB⟩
theorem c_co1(s:CS)(w:World):Calls Tryz.prog 117 #[.agg s.cells.toArray] w fun e w'=>e=.returned (.bool true)∧Below w.heap.size w w':=by
 refine en (sz:=3) rfl rfl rfl fun a hs hd zl=>?_;have hB:=bz_refl w
 refine wp_seq (wp_region_list ?_);refine ta hs hd zl ?_;intro g u hg hge hb;clear hs hd zl;intro a hs hd zl;replace hB:=bz_then hB hb;(try clear hup);have hup:=bup hB;clear hb;refine wW ?_;clear hs hd zl;intro a hs hd zl;refine wp_ret ?_;(repeat first|refine then_ret ?_|refine inBlock_ret ?_);exact end_tmp rfl hd (sl zl 2) ⟨rfl,hB⟩
theorem c_co2(s:CS)(w:World):Calls Tryz.prog 123 #[.agg s.cells.toArray] w fun e w'=>e=.returned (.bool true)∧Below w.heap.size w w':=by
 refine en (sz:=3) rfl rfl rfl fun a hs hd zl=>?_;have hB:=bz_refl w
 refine wp_seq (wp_region_list ?_);refine ta hs hd zl ?_;intro g u hg hge hb;clear hs hd zl;intro a hs hd zl;replace hB:=bz_then hB hb;(try clear hup);have hup:=bup hB;clear hb;refine wW ?_;clear hs hd zl;intro a hs hd zl;refine wp_ret ?_;(repeat first|refine then_ret ?_|refine inBlock_ret ?_);exact end_tmp rfl hd (sl zl 2) ⟨rfl,hB⟩
def Cm.bid(C:Cm):Array Value:=#[.slice C.b.A C.b.l.length C.b.c,.int .u32 C.bt,.slice C.bp.A C.bp.l.length C.bp.c]
theorem c_vbc(V:Vs)(C:Cm)(gv gc:Nat)(w:World)(hgv:Blk w gv 157 V.cells)(hC:C.at w gc)(hn:V.P.length=C.S.length):
  Calls Tryz.prog 121 #[.pointer (some ⟨gv,0,none⟩),.pointer (some ⟨gc,0,none⟩),.int .i64 C.ht,.agg C.bid] w fun e w'=>e=.returned .nilIface∧Below w.heap.size w w':=by
 refine en (sz:=39) rfl rfl rfl fun a hs hd zl=>?_;have hB:=bz_refl w
 obtain⟨n,hN⟩:∃n,Is C.S.length n:=is_self _;obtain⟨ht,hHT⟩:∃n,Is C.ht n:=is_self _;rw[hHT.out]at zl;have c0:w.cell? ⟨gc,0,none⟩=some (.int .i64 ht):=by rw[← hHT.out];exact hC.blk.cell 0
 have c5:w.cell? ⟨gc,5,none⟩=some (.slice C.A n C.c):=by rw[← hN.out];exact hC.blk.cell 5
 have v0:w.cell? ⟨gv,0,none⟩=some (.slice V.A n V.c):=by rw[← hN.out,← hn];exact hgv.cell 0
 have lc:=hC.blk.lt;have lv:=hgv.lt;have HN:=Is.hid hn;clear hn;refine wp_seq (wp_region_list ?_);refine ta hs hd zl ?_;intro g7 u hg7 hge7 hb;clear hs hd zl;intro a hs hd zl;replace hB:=bz_then hB hb;(try clear hup);have hup:=bup hB;clear hb;refine wW ?_;clear hs hd zl;intro a hs hd zl
 (try change Code.wp _ _ _ _ _);refine fx [(15,_),(16,_),(17,_),(18,_),(19,_),(20,_),(21,_)] 7 hs hd zl ?_ (hstep:=by(simp only[List.map_cons,List.map_nil];(repeat' first|exact trivial|refine And.intro (sP bo) ?_|refine And.intro (sY bo) ?_|refine And.intro sN ?_|refine And.intro (sP (bc (v:=.int .i64 (n:Int)) (fun u1 hb1=>(c_vsSize2 V.A n V.c gv u1 (cell_up (bz_then hB hb1) v0)).mono (by rintro _ _ ⟨rfl,rfl⟩;exact⟨rfl,Below.refl _ _⟩)))) ?_)));clear hs hd zl;intro a u hb hs hd zl
 replace hg7:=hg7.after hb;replace hB:=bz_then hB hb;(try clear hup);have hup:=bup hB;clear hb;refine wW ?_;clear hs hd zl;intro a hs hd zl;change Code.wp _ _ _ _ _;have hpt:∀u,Below w.heap.size w u→∀(o:Oper) (a:Act) (K:Act→World→Prop) (Q:Exit→Act→World→Prop) (x:Operand),o.op=.load 117 x→a.eval x=.pointer (some ⟨gc,2,none⟩)→K (a.put o.dst (.agg C.bid)) u→o.wp Tryz.prog a u K Q:=fun u hB o a K Q x ho hx hK=>
  op_load_part 117 x ho gc 2 hx _ _ C.bid _ (hC.after hB).blk (show(2+3:Nat)≤7 by decide) rfl rfl (by kernel_rfl) rfl hK
 (try change Code.wp _ _ _ _ _);refine fx [(31,_),(32,_),(33,_),(34,_),(35,_)] 5 hs hd zl ?_ (hstep:=by(simp only[List.map_cons,List.map_nil];(repeat' first|exact trivial|refine And.intro (sP bo) ?_|refine And.intro (sY bo) ?_|refine And.intro sN ?_|refine And.intro (sP (bk (v:=.agg C.bid) (fun a u1 hb zl hd K Q hK=>op_load_row 117 (.tmp 7) rfl g7 (sl zl 7) _ C.bid _ (hg7.after hb) rfl rfl (by kernel_rfl) hK))) ?_|refine And.intro (sP (bk (v:=.agg C.bid) (fun a u1 hb zl hd K Q hK=>hpt u1 (bz_then hB hb) _ a K Q (.tmp 34) rfl (vD hd 3) hK))) ?_)));clear hs hd zl;intro a u hb hs hd zl
 replace hB:=bz_then hB hb;(try clear hup);have hup:=bup hB;clear hb;have h1:=(hC.after hB).b;have h2:=(hC.after hB).bp;refine tc (show Calls Tryz.prog 145 #[.agg C.bid,.agg C.bid] u _ from c_bidEq C.bt C.b.A C.b.A C.bp.A C.bp.A C.b.c C.b.c C.bp.c C.bp.c C.b.l C.bp.l u h1.fm h1.bs h1.b8 h1.fm h1.bs h2.fm h2.bs h2.b8 h2.fm h2.bs) hs hd zl ?_;rintro _ u ⟨rfl,hb⟩;refine⟨_,rfl,?_⟩;clear hs hd zl;intro a hs hd zl;replace hB:=bz_then hB hb;(try clear hup);have hup:=bup hB;clear hb;refine wW ?_;clear hs hd zl;intro a hs hd zl;refine wp_ret ?_;(repeat first|refine then_ret ?_|refine inBlock_ret ?_);exact end_tmp rfl hd (sl zl 8) ⟨rfl,hB⟩
end Go.Proofs.YtjhnnjhaklohhaaGreatDoor
