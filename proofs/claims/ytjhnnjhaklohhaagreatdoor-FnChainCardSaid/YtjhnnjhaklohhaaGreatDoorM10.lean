/- What validators say, of the thin package and of the reference: rows of five cells; rows put behind rows of the call's own. The reference's message of a vote. (Printed by gen_msg.py.) A commit of the thin package as the reference has it. (Printed by gen_commit.py.) slices.Clone of what validators say. (Printed by gen_clone.py.) A plain key: its type; its methods by the interface. A set of validators of the package's, as it lies. What a validator says is well formed. A validator copied. (Printed by gen_vs.py.) A set's power summed. Two validators compared; the one that is ahead of all. The one of a set that is ahead of all: one of them. All keys of a set are of one kind. A region in which one operation hangs on nothing and nothing of the first ones hangs on it: it may come at any time. -/
import Derived.Test.YtjhnnjhaklohhaaGreatDoorM9
import Derived.Test.YtjhnnjhaklohhaaGreatDoorM1
import Derived.Lib.BytesEntry
set_option linter.unusedVariables false
set_option linter.unusedSimpArgs false
set_option maxHeartbeats 4000000
set_option maxRecDepth 100000
namespace Go.Proofs.YtjhnnjhaklohhaaGreatDoor
open Go.RowKit
theorem op_app_rows{o:Oper}{a:Act}{w:World}{Q:Exit→Act→World→Prop}{K:Act→World→Prop}{t e:TypeId}(s x:Operand)(ho:o.op=.call {callee:=.builtin .append,args:=#[s,x],argTypes:=#[t,t]})
  {z:Value}{k bytes:Nat}(ht:Tryz.prog.underlying t=some (.slice e))(hi:(Tryz.prog.info? e).map (fun i=>(i.zero,i.size,i.bytes))=some (some z,k,bytes))(hzs:z.cells.size=k)(hk:0<k)
  {base c c2:Nat}{A A2:Option Addr}{R1 R:List (List Value)}(hs:a.eval s=.slice A R1.length c)(hx:a.eval x=.slice A2 R.length c2)(hown:OwnR e k base w A c R1)(hR:RowsAt w A2 k R)(hn:0<R.length)(h1:∀r∈R,∀u∈r,u.oneCell'=true)(hlen:R1.length+R.length≤1000)(hby:bytes≤10000)(hbase:base≤w.heap.size)
  (h:∀(A':Option Addr) (c':Nat) (w':World),OwnR e k base w' A' c' (R1++R)→Below base w w'→w.grownBy w' (blkOf A)→K (a.put o.dst (.slice A' (R1++R).length c')) w'):o.wp Tryz.prog a w K Q:=by
 obtain⟨i0,hi0,hz0,hz1,hz2⟩:=info_parts hi;obtain⟨b,off,rfl,hb,hc⟩:=hR.at_ hn;have hk':∀r∈R,r.length=k:=fun r hr=>by
  obtain⟨i,hi⟩:=List.getElem?_of_mem hr;exact(hc i r hi).1
 have hbb:(R1.length+R.length)*bytes≤140737488355328:=by
  have:(R1.length+R.length)*bytes≤1000*10000:=Nat.mul_le_mul hlen hby
  omega
 obtain⟨v',w',hrun,h2,h3,_,h5⟩:=run_append_own_at (P:=Tryz.prog) w base t o.type e i0 z k bytes ht hi0 hz0 hz1 hz2 hzs hk _ _ _ hown.2 ⟨b,off,none⟩ R.length c2 R.flatten (flatten_len hk')
  (by
   intro j u hu;have hj:j<R.length*k:=by rw[← flatten_len hk'];exact(List.getElem?_eq_some_iff.1 hu).1
   have hjk:j=j / k*k+j % k:=by rw[Nat.mul_comm];exact(Nat.div_add_mod j k).symm
   have hq:j / k<R.length:=Nat.div_lt_of_lt_mul (by rw[Nat.mul_comm];exact hj);have hr:=List.getElem?_eq_getElem hq;have hmod:j % k<k:=Nat.mod_lt _ hk;rw[hjk,flatten_get hk' (j / k) _ hr (j % k) hmod]at hu;have:=(hc (j / k) _ hr).2 (j % k) u hu;rw[addr_add,hjk];rw[← Nat.add_assoc];exact this) (fun u hu=>by
   obtain⟨r,hr,hur⟩:=List.mem_flatten.1 hu;exact h1 r hr u hur) (by unfold maxLen;omega) hbb hbase
 rw[ownBlock_slice]at h3 h5;have hv:∃A' c',v'=.slice A' (R1++R).length c':=by
  rcases h2.2 with⟨h,h0⟩|⟨g,cap,cur,h,_⟩
  ·exact⟨none,0,by rw[h,List.length_append,h0]⟩
  ·exact⟨_,cap,by rw[h,List.length_append]⟩
 obtain⟨A',c',rfl⟩:=hv;have hB:Below base w w':=⟨h3.os,h3.tape,h3.output,h3.size,fun k' hk'=>h3.block k' (Nat.lt_of_lt_of_le hk' hbase) (by
  rcases hown.form with⟨rfl,_,_⟩|⟨g',cur,rfl,hge,_⟩
  ·simp[blkOf]
  ·simp[blkOf];omega)⟩
 unfold Oper.wp execOp;simp only[ho,resolve,invoke,builtin,Sem.run_bind,Sem.run_pure,Result.andThen_ok,List.map_toArray,List.map_cons,List.map_nil,hs,hx,hrun];refine h A' c' w' ⟨fun x hx=>?_,?_⟩ hB h3
 ·rcases List.mem_append.1 hx with h|h
  ·exact hown.1 x h
  ·exact hk' x h
 ·rw[List.length_append,List.flatten_append]at *;exact h2
structure Sg where
 fl:Int
 ad:ByteArray
 sec:Int
 ns:Int
 sg:HSl
def Sg.cells(s:Sg):List Value:=[.int .i64 s.fl,.string s.ad,.int .i64 s.sec,.int .i64 s.ns,s.sg.v]
theorem Sg.one(s:Sg):∀v∈s.cells,v.oneCell'=true:=by intro v hv;simp only[Sg.cells,HSl.v,List.mem_cons,List.not_mem_nil,or_false]at hv;rcases hv with rfl|rfl|rfl|rfl|rfl <;> rfl
def sgRows(S:List Sg):List (List Value):=S.map Sg.cells
theorem sgRows_length(S:List Sg):(sgRows S).length=S.length:=List.length_map ..
theorem sgRows_get{S:List Sg}{i:Nat}{s:Sg}(h:S[i]?=some s):(sgRows S)[i]?=some s.cells:=by unfold sgRows;rw[List.getElem?_map,h];rfl
theorem sgn_info:(Tryz.prog.info? 59).map (fun i=>(i.zero,i.size,i.bytes))=some (some (.agg #[.int .i64 0,.string ⟨#[]⟩,.int .i64 0,.int .i64 0,.slice none 0 0]),5,64):=by kernel_rfl
theorem sgs_info:(Tryz.prog.info? 136).map (fun i=>(i.zero,i.size,i.bytes))=some (some (.agg #[.int .i64 0,.string ⟨#[]⟩,.int .i64 0,.int .i64 0,.slice none 0 0]),5,64):=by kernel_rfl
structure Ic where
 ht:Int
 rd:Int
 b:HSl
 bt:Int
 bp:HSl
 A:Option Addr
 c:Nat
 S:List Sg
def Ic.cells(C:Ic):Array Value:=#[.int .i64 C.ht,.int .i64 C.rd,C.b.v,.int .i64 C.bt,C.bp.v,.slice C.A C.S.length C.c]
theorem Ic.one(C:Ic):∀v∈C.cells.toList,v.oneCell'=true:=by intro v hv;simp only[Ic.cells,HSl.v,List.mem_cons,List.not_mem_nil,or_false]at hv;rcases hv with rfl|rfl|rfl|rfl|rfl|rfl <;> rfl
def bodyL(tw:Bool)(ht rd:Int)(s:List Int)(p:Int)(r:List Int)(sec ns:Int)(ch:ByteArray):List Int:=
 numL 1 2++fixL 2 ht.toNat++fixL 3 rd.toNat++(if tw then withinL 4 (bidL s p r)else[])++withinL 5 (numL 1 sec.toNat++numL 2 ns.toNat)++someL 6 (bytesOf ch)
def msgL(tw:Bool)(ht rd:Int)(s:List Int)(p:Int)(r:List Int)(sec ns:Int)(ch:ByteArray):List Int:=vi (bodyL tw ht rd s p r sec ns ch).length++bodyL tw ht rd s p r sec ns ch
theorem msgL_vsb(ht rd:Int)(s:List Int)(p:Int)(r:List Int)(sec ns:Int)(ch:ByteArray):msgL true ht rd s p r sec ns ch=vsbL ht rd s p r (sec+62135596800) ns ch:=by
 unfold msgL vsbL bodyL cvL;simp only[if_true,show sec+62135596800-62135596800=sec by omega]
theorem bodyL_len(tw:Bool)(ht rd:Int)(s:List Int)(p:Int)(r:List Int)(sec ns:Int)(ch:ByteArray)(hs:s.length≤2200000000)(hp:p≤4294967295)(hr:r.length≤2200000000)(h1:0≤sec∧sec≤9000000000000000000)(h2:0≤ns∧ns≤2147483647)(hch:ch.size≤2200000000):(bodyL tw ht rd s p r sec ns ch).length≤9000000000:=by
 have n1:=numL_len 1 2 (by decide);have n2:=fixL_len 2 ht.toNat;have n3:=fixL_len 3 rd.toNat;have n4:=bidL_len s p r hs hp hr;have n5:=withinL_len 4 (bidL s p r) (by omega);have n6:=numL_len 1 sec.toNat (by omega);have n7:=numL_len 2 ns.toNat (by omega);have n8:=withinL_len 5 (numL 1 sec.toNat++numL 2 ns.toNat) (by rw[List.length_append];omega);have n9:=someL_len 6 (bytesOf ch) (by rw[bytesOf_length];omega);rw[List.length_append]at n8;rw[bytesOf_length]at n9;unfold bodyL
 cases tw;all_goals
  simp only[List.length_append,Bool.false_eq_true,if_false,if_true,List.length_nil];omega
theorem c_specNone(p:Int)(A A':Option Addr)(c c' n n':Nat)(w:World)(hn:0<n):Calls Tryz.prog 58 #[.agg #[.slice A n c,.int .i64 p,.slice A' n' c']] w fun e w'=>e=.returned (.bool false)∧Below w.heap.size w w':=by
 have e1:((n:Int) == 0)=false:=by rw[beq_eq_false_iff_ne];omega
 go_enter Tryz.func58,Tryz.ntmps58
 go_wp2
 go_ret
 exact⟨rfl,by(repeat' (first|exact Below.refl _ _|exact Nat.le_refl _|(with_reducible assumption)|refine Below.setCell ?_ ?_ _|refine Below.alloc ?_ ?_ _|refine below_drewN ?_ _|refine Below.drew ?_|(simp;done)|omega|(simp;omega)|(simp at *;omega)))⟩
theorem flat6(a b c d e f:List Int):flat [a,b,c,d,e,f]=a++b++c++d++e++f:=by simp[flat]
structure Ic.num(C:Ic):Prop where
 ht:0≤C.ht∧C.ht≤9223372036854775807
 rd:0≤C.rd∧C.rd≤9223372036854775807
 bt:0≤C.bt∧C.bt≤4294967295
 b:0<C.b.l.length
structure Tm0(sec ns:Int):Prop where
 sec:0≤sec∧sec≤9000000000000000000
 ns:0≤ns∧ns≤2147483647
theorem c_Message(C:Ic)(x:Sg)(i:Nat)(tw:Bool)(ch:ByteArray)(w:World)(hCb:C.b.ok w)(hCp:C.bp.ok w)(hrows:RowsAt w C.A 5 (sgRows C.S))(hx:C.S[i]?=some x)(htw:(x.fl == 2)=tw)(hi:i≤1000)(hn:C.num)(ht:Tm0 x.sec x.ns)(hch:ch.size≤2200000000):
  Calls Tryz.prog 38 #[.string ch,.agg C.cells,.int .i64 (i:Int)] w fun e w'=>∃v,e=.returned v∧BsAt w.heap.size (msgL tw C.ht C.rd C.b.l C.bt C.bp.l x.sec x.ns ch) v w'∧Below w.heap.size w w':=by
 suffices h:∀w0,(C.b.ok w0)→(C.bp.ok w0)→(RowsAt w0 C.A 5 (sgRows C.S))→Below w0.heap.size w0 w→Calls Tryz.prog 38 #[.string ch,.agg C.cells,.int .i64 (i:Int)] w fun e w'=>∃v,e=.returned v∧BsAt w0.heap.size (msgL tw C.ht C.rd C.b.l C.bt C.bp.l x.sec x.ns ch) v w'∧Below w0.heap.size w0 w' from h w hCb hCp hrows (bz_refl w)
 clear hCb hCp hrows;intro w0 hCb hCp hrows hB;refine enter_abs Tryz.func38 rfl 50 rfl (by simp) ?_;intro a hs hd hargs;have s0:=hargs 0 _ rfl;have s1:=hargs 1 _ rfl;have s2:=hargs 2 _ rfl;clear hargs;have H:=Is.hid hn;have nh:=hn.ht;have nr:=hn.rd;have nt:=hn.bt;have ns1:=ht.sec;have ns2:=ht.ns;have hlb:=Is.hid hCb.len;have hlp:=Is.hid hCp.len;have HX:=Is.hid hx;clear hn ht;refine wp_seq ?_;refine wp_region_list ?_;show wpList _ _ _ [_,_] _ _
 refine tail_op rfl (fun K hK=>?_);have q1:=gd s1;go_simp;clear q1;refine hK _ _ ?_;clear hK K;refine act_put (d:=4) _ hs hd (by decide) [(0,_),(1,_),(2,_)] ⟨s0,s1,s2,trivial⟩ rfl ?_;clear hs hd s0 s1 s2;intro a hs hd zl;obtain⟨g,hE⟩:∃B,Is w.heap.size B:=is_self _;generalize hw1:World.alloc w _=w1;have hg:Blk w1 g 91 C.cells:=by rw[← hw1,← hE.out];exact Blk.new w _ _
 have hB1:Below w.heap.size w w1:=by rw[← hw1];exact bz_alloc (bz_refl w) _
 replace hB:=bz_then hB hB1;obtain⟨s4,s0,s1,s2,-⟩:=zl;rw[hE.out]at s4;clear hw1 hB1 hE;refine tail_op rfl (fun K hK=>?_);go_simp;refine hK _ _ ?_;clear hK K;refine act_put (d:=6) _ hs hd (by decide) [(0,_),(1,_),(2,_),(4,_)] ⟨s0,s1,s2,s4,trivial⟩ rfl ?_;clear hs hd s0 s1 s2 s4;intro a hs hd zl;have hlt:i<C.S.length:=(List.getElem?_eq_some_iff.1 hx).1;obtain⟨b0,o0,hA,hb0,hcells⟩:=(hrows.after hB).at_ (by rw[sgRows_length];omega);have hck:=hcells i x.cells (sgRows_get hx);have c5:w1.cell? ⟨g,5,none⟩=some (.slice C.A C.S.length C.c):=by rw[hg.cell];rfl
 obtain⟨n,hnn⟩:∃n,Is C.S.length n:=is_self _;rw[hnn.out]at c5 hlt;rw[hA]at c5;clear hcells hx hb0;have i0l:0≤(i:Int):=by omega
 have i0h:(i:Int)<(n:Int):=by omega
 have i0t:Int.toNat ((i:Int))=i:=by omega
 refine wn 4 ?_;clear hs hd zl;intro a hs hd zl;refine tail_op rfl (fun K hK=>?_);have q13:=gL zl 0;have s13:=vL zl 0;refine op_load_cells 136 (.tmp 13) rfl b0 _ s13 x.cells _ hck.2 rfl rfl (by kernel_rfl) ?_;clear q13;refine hK _ _ (tP hs hd zl ?_);clear hK K hs hd zl s13;intro a hs hd zl;refine tail_op rfl (fun K hK=>?_);go_simp;refine hK _ _ (tP hs hd zl ?_);clear hK K hs hd zl;intro a hs hd zl;refine tail_op rfl (fun K hK=>?_);have q7:=gL zl 0;have q14:=gL zl 1;have s7:=vL zl 0;have s14:=vL zl 1;refine op_store_row 136 (.tmp 7) (.tmp 14) rfl w1.heap.size s7 _ s14 136 _ (Blk.new w1 _ _) rfl (by kernel_rfl) x.one ?_;clear q7 q14;refine hK _ _ ?_;clear hK K;change wpList _ _ _ _ a _;rw[setRow_alloc_at _ _ _ _ _ rfl];obtain⟨y,hE⟩:∃B,Is w1.heap.size B:=is_self _;generalize hw1:World.alloc w1 _=w2;have hy:Blk w2 y 136 x.cells.toArray:=by rw[← hw1,← hE.out];exact Blk.new w1 _ _
 have hB1:Below w1.heap.size w1 w2:=by rw[← hw1];exact bz_alloc (bz_refl w1) _
 replace hB:=bz_then hB hB1;replace hg:=hg.after hB1;clear s7 s14;obtain⟨s7,s14,s13,s12,s11,s10,-,s0,-,s2,s4,-⟩:=zl;rw[hE.out]at s7;clear hw1 hB1 hE;clear hck c5 i0l i0h i0t;clear s2 s10 s11 s12 s13 s14;refine wp_seq ?_;refine wp_region_list ?_;show wpList _ _ _ [_] _ _
 refine tail_op rfl (fun K hK=>?_);go_simp;refine hK _ _ ?_;clear hK K;refine act_put (d:=8) _ hs hd (by decide) [(0,_),(4,_),(7,_)] ⟨s0,s4,s7,trivial⟩ rfl ?_;clear hs hd s0 s4 s7;intro a hs hd zl;have d0:w2.cell? ⟨y,0,none⟩=some (.int .i64 x.fl):=by rw[hy.cell];rfl
 cases tw
 ·have e1:(x.fl == 2)=false:=htw;clear htw;refine wp_seq ?_;refine wp_seq ?_;refine fl2 [.eq 15 _,.eq 16 _,.eq 17 _,.eq 18 (.bool false),.eq 19 _,.eq 20 _,.eq 21 _,.eq 22 _] 8 hs hd zl
   ⟨sP bq,
    (stp rfl fun a u hb hs hl hd K hK=>by have s15:=gD hd 0;have d0:=cell_up hb d0;clear hd;go_simp;exact kE hK hs),
    (stp rfl fun a u hb hs hl hd K hK=>by have s16:=gD hd 1;clear hd;go_simp;exact kE hK hs),
    (stp rfl fun a u hb hs hl hd K hK=>by have s17:=gD hd 2;clear hd;go_simp;exact kE hK hs),
    sN,
    sN,
    sN,
    sN,
    trivial⟩ ?_
  clear hs hd zl;intro a w hb hs hd zl hh;replace zl:=lH hh 3 zl;replace zl:=lH hh 7 zl;clear hh;replace hg:=hg.after hb;replace hy:=hy.after hb;replace d0:=cell_up hb d0;replace hB:=bz_then hB hb;clear hb;show wpList _ _ _ [_] _ _
  refine tail_op rfl (fun K hK=>?_);have q18:=gL zl 1;have q22:=gL zl 0;go_simp;clear q18 q22;refine hK _ _ (tP hs hd zl ?_);clear hK K hs hd zl;intro a hs hd zl;refine wp_cond_false (vL zl 0) ?_;refine wp_skip ?_;have hv8:BsAt 0 (if false=true then withinL 4 (bidL C.b.l C.bt C.bp.l)else[]) (.slice none 0 0) w:=⟨[],none,0,rfl,rfl,.inl ⟨rfl,rfl,rfl⟩,Nat.le_refl _,Bs.nil _ _,fun k hk=>by cases hk⟩;obtain⟨v8,s8v⟩:∃v,Is (Value.slice none 0 0) v:=is_self _;obtain⟨s23,-,-,s8,s0,s4,s7,-⟩:=zl;rw[s8v.out]at s8 hv8;clear s8v;clear e1 d0;have hlen:=Is.hid (bodyL_len false C.ht C.rd C.b.l C.bt C.bp.l x.sec x.ns ch hlb.out nt.2 hlp.out ns1 ns2 hch);have kc:=fun(w:World)=>Lib.run_convert_string_bytes (P:=Tryz.prog) w 9 32 5 (ch) Tryz.underlying9 Tryz.underlying32 Tryz.underlying5
  have n6:=numL_len 1 x.sec.toNat (by omega);have n7:=numL_len 2 x.ns.toNat (by omega);have hbl:=bytesOf_length ch;have a0:w.cell? ⟨g,0,none⟩=some (.int .i64 C.ht):=by rw[hg.cell];rfl
  have a1:w.cell? ⟨g,1,none⟩=some (.int .i64 C.rd):=by rw[hg.cell];rfl
  refine wp_seq ?_;refine fl2 (F:=[(0,_),(4,_),(7,_),(8,_),(23,_)]) [FItem.bs 28 0 (numL 1 2),.eq 29 _,.eq 30 _,FItem.bs 31 0 (fixL 2 C.ht.toNat),.eq 32 _,.eq 33 _,FItem.bs 34 0 (fixL 3 C.rd.toNat),FItem.bs 35 0 ((if false=true then withinL 4 (bidL C.b.l C.bt C.bp.l)else[])),.eq 36 _,.eq 37 (.agg #[.int .i64 x.sec,.int .i64 x.ns]),FItem.bs 38 0 (numL 1 x.sec.toNat++numL 2 x.ns.toNat),FItem.bs 39 0 (withinL 5 (numL 1 x.sec.toNat++numL 2 x.ns.toNat)),.eq 40 _,FItem.bs 41 0 (bytesOf ch),FItem.bs 42 0 (someL 6 (bytesOf ch)),FItem.ls 43 ([numL 1 2,fixL 2 C.ht.toNat,fixL 3 C.rd.toNat,(if false=true then withinL 4 (bidL C.b.l C.bt C.bp.l)else[]),withinL 5 (numL 1 x.sec.toNat++numL 2 x.ns.toNat),someL 6 (bytesOf ch)]),FItem.bs 44 0 (bodyL false C.ht C.rd C.b.l C.bt C.bp.l x.sec x.ns ch)] 17 hs hd ⟨s0,s4,s7,s8,s23,trivial⟩
   ⟨(stp rfl fun a u hb hs hl hd K hK=>by
     have a0:=cell_up hb a0;have a1:=cell_up hb a1;clear hd;go_simp;refine(c_number 1 2 _ (by omega) (by omega) (by omega)).mono ?_;intro e w3 h;obtain⟨v,rfl,hv,hb2⟩:=h.at0;exact hK _ _ hb2 (bs_put hs (by decide) hv)),
    sP bq,
    sP bq,
    (stp rfl fun a u hb hs hl hd K hK=>by
     have s30:=gD hd 2;have a0:=cell_up hb a0;have a1:=cell_up hb a1;clear hd;go_simp;refine(c_fixed 2 C.ht _ (by omega) nh.1 nh.2).mono ?_;intro e w3 h;obtain⟨v,rfl,hv,hb2⟩:=h.at0;exact hK _ _ hb2 (bs_put hs (by decide) hv)),
    sP bq,
    sP bq,
    (stp rfl fun a u hb hs hl hd K hK=>by
     have s33:=gD hd 5;have a0:=cell_up hb a0;have a1:=cell_up hb a1;clear hd;go_simp;refine(c_fixed 3 C.rd _ (by omega) nr.1 nr.2).mono ?_;intro e w3 h;obtain⟨v,rfl,hv,hb2⟩:=h.at0;exact hK _ _ hb2 (bs_put hs (by decide) hv)),
    (stp rfl fun a u hb hs hl hd K hK=>by
     have s8:=gL hl 3;have a0:=cell_up hb a0;have a1:=cell_up hb a1;clear hd;go_simp;exact hK _ _ (Below.refl _ _) (bs_put hs (by decide) (hv8.after hb))),
    sP bq,
    (stp rfl fun a u hb hs hl hd K hK=>by
     have s36:=gD hd 8;have a0:=cell_up hb a0;have a1:=cell_up hb a1;clear hd;refine op_load_part 68 (.tmp 36) rfl y 2 (gu s36) _ _ #[.int .i64 x.sec,.int .i64 x.ns] _ (hy.after hb) (show(2+2:Nat)≤5 by decide) rfl rfl (by kernel_rfl) rfl ?_;exact kE hK hs),
    (stp rfl fun a u hb hs hl hd K hK=>by
     have s37:=gD hd 9;have a0:=cell_up hb a0;have a1:=cell_up hb a1;clear hd;go_simp;refine(c_MomB x.sec x.ns _ ns1 ns2).mono ?_;intro e w3 h;obtain⟨v,rfl,hv,hb2⟩:=h.at0;exact hK _ _ hb2 (bs_put hs (by decide) hv)),
    (stp rfl fun a u hb hs hl hd K hK=>by
     have i38:=FItem.bs_holds.1 (dep_get0 hd 10 (by kernel_rfl));obtain⟨v38,e38⟩:∃v,Is (a.tmps.getD 38 undef) v:=is_self _;rw[e38.out]at i38;have s38:=gd e38.out;have a0:=cell_up hb a0;have a1:=cell_up hb a1;clear hd;obtain⟨x38,A38,k38,hx38,rfl,f38,n38,b38,-⟩:=i38;go_simp;refine(c_within 5 A38 k38 x38 _ (by omega) b38 (by rw[hx38.out,List.length_append];omega)).mono ?_;intro e w3 h;rw[hx38.out]at h;obtain⟨v,rfl,hv,hb2⟩:=h.at0;exact hK _ _ hb2 (bs_put hs (by decide) hv)),
    sP bq,
    (stp rfl fun a u hb hs hl hd K hK=>by
     have s40:=gD hd 12;have a0:=cell_up hb a0;have a1:=cell_up hb a1;clear hd;go_simp;exact hK _ _ (bz_bytes (bz_refl _) _ _) (bs_put hs (by decide) (conv_at _ _ _))),
    (stp rfl fun a u hb hs hl hd K hK=>by
     have i41:=FItem.bs_holds.1 (dep_get0 hd 13 (by kernel_rfl));obtain⟨v41,e41⟩:∃v,Is (a.tmps.getD 41 undef) v:=is_self _;rw[e41.out]at i41;have s41:=gd e41.out;have a0:=cell_up hb a0;have a1:=cell_up hb a1;clear hd;obtain⟨x41,A41,k41,hx41,rfl,f41,n41,b41,-⟩:=i41;go_simp;refine(c_some 6 A41 k41 x41 _ (by omega) b41 (by rw[hx41.out,hbl];omega)).mono ?_;intro e w3 h;rw[hx41.out]at h;obtain⟨v,rfl,hv,hb2⟩:=h.at0;exact hK _ _ hb2 (bs_put hs (by decide) hv)),
    (stp rfl fun a u hb hs hl hd K hK=>by
     have i28:=FItem.bs_holds.1 (dep_get0 hd 0 (by kernel_rfl));obtain⟨v28,e28⟩:∃v,Is (a.tmps.getD 28 undef) v:=is_self _;rw[e28.out]at i28;have s28:=gd e28.out;have i31:=FItem.bs_holds.1 (dep_get0 hd 3 (by kernel_rfl));obtain⟨v31,e31⟩:∃v,Is (a.tmps.getD 31 undef) v:=is_self _;rw[e31.out]at i31;have s31:=gd e31.out;have i34:=FItem.bs_holds.1 (dep_get0 hd 6 (by kernel_rfl));obtain⟨v34,e34⟩:∃v,Is (a.tmps.getD 34 undef) v:=is_self _;rw[e34.out]at i34;have s34:=gd e34.out;have i35:=FItem.bs_holds.1 (dep_get0 hd 7 (by kernel_rfl));obtain⟨v35,e35⟩:∃v,Is (a.tmps.getD 35 undef) v:=is_self _;rw[e35.out]at i35;have s35:=gd e35.out;have i39:=FItem.bs_holds.1 (dep_get0 hd 11 (by kernel_rfl));obtain⟨v39,e39⟩:∃v,Is (a.tmps.getD 39 undef) v:=is_self _;rw[e39.out]at i39;have s39:=gd e39.out;have i42:=FItem.bs_holds.1 (dep_get0 hd 14 (by kernel_rfl));obtain⟨v42,e42⟩:∃v,Is (a.tmps.getD 42 undef) v:=is_self _;rw[e42.out]at i42;have s42:=gd e42.out;have a0:=cell_up hb a0;have a1:=cell_up hb a1;clear hd;have j28:=i28;obtain⟨x28,A28,k28,-,rfl,-,-,-,-⟩:=j28;have j31:=i31;obtain⟨x31,A31,k31,-,rfl,-,-,-,-⟩:=j31;have j34:=i34;obtain⟨x34,A34,k34,-,rfl,-,-,-,-⟩:=j34;have j35:=i35;obtain⟨x35,A35,k35,-,rfl,-,-,-,-⟩:=j35;have j39:=i39;obtain⟨x39,A39,k39,-,rfl,-,-,-,-⟩:=j39;have j42:=i42;obtain⟨x42,A42,k42,-,rfl,-,-,-,-⟩:=j42;go_simp;exact hK _ _ (bz_alloc (bz_refl _) _) (ls_put hs (by decide) (LsAt.new (vs:=[.slice A28 x28.length k28,.slice A31 x31.length k31,.slice A34 x34.length k34,.slice A35 x35.length k35,.slice A39 x39.length k39,.slice A42 x42.length k42]) ⟨i28,i31,i34,i35,i39,i42,trivial⟩ (by simp)))),
    (stp rfl fun a u hb hs hl hd K hK=>by
     have i43:=FItem.ls_holds.1 (dep_get0 hd 15 (by kernel_rfl));obtain⟨v43,e43⟩:∃v,Is (a.tmps.getD 43 undef) v:=is_self _;rw[e43.out]at i43;have s43:=gd e43.out;have a0:=cell_up hb a0;have a1:=cell_up hb a1;clear hd;go_simp;refine(i43.joined (by simp) (by rw[flat6];exact Nat.le_trans hlen.out (by decide))).mono ?_;intro e w3 h;rw[flat6]at h;obtain⟨v,rfl,hv,hb2⟩:=h.at0;exact hK _ _ hb2 (bs_put hs (by decide) hv)),
    trivial⟩ ?_
  clear hs hd s0 s4 s7 s8 s23;intro a w hb hs hd zl hh;have i44:=FItem.bs_holds.1 (hold_get hh 16);obtain⟨v44,s44⟩:∃v,a.tmps.getD 44 undef=v:=⟨_,rfl⟩;rw[s44]at i44;clear hh;replace hg:=hg.after hb;replace hy:=hy.after hb;replace a0:=cell_up hb a0;replace a1:=cell_up hb a1;replace hB:=bz_then hB hb;clear hb;show wpList _ _ _ [_] _ _
  refine tail_op rfl (fun K hK=>?_);have q44:=gd s44;go_simp;clear q44;refine hK _ _ ?_;clear hK K;obtain⟨-,-,-,-,-,-⟩:=zl;refine act_put (d:=9) _ hs hd (by decide) [(44,_)] ⟨s44,trivial⟩ rfl ?_;clear hs hd s44;intro a hs hd zl;obtain⟨l9,A9,k9,hl9,rfl,f9,c9,b9,-⟩:=i44;have n9:l9.length≤9000000000:=by rw[hl9.out];exact hlen.out
  have hwb:=hB.size;refine wn 2 ?_;clear hs hd zl;intro a hs hd zl;refine tail_op rfl (fun K hK=>?_);have q46:=gL zl 0;go_simp;refine(c_counted (l9.length:Int) _ (by omega) (by omega)).mono ?_;rintro e w10 ⟨l10,A10,k10,hl10,rfl,ho10,hb10⟩;have n10:=vi_len63 l9.length (by omega);have n11:l10.length≤10:=by rw[hl10.out,Int.toNat_natCast];exact n10
  clear q46;refine hK _ _ (tP hs hd zl ?_);clear hK K hs hd zl;intro a hs hd zl;replace hB:=bz_then hB hb10;refine wn 1 ?_;clear hs hd zl;intro a hs hd zl;refine tail_op rfl (fun K hK=>?_);have q47:=gL zl 1;have q48:=gL zl 0;have s47:=vL zl 1;have s48:=vL zl 0;refine op_app_u8 (.tmp 47) (.tmp 48) rfl (l2:=l9) (c2:=k9) s47 s48 ho10 (b9.after hb10) (by omega) hb10.size ?_;intro l11 A11 k11 w11 hl11 _ ho11 hb11 _ hat;clear hat;clear q47 q48;refine hK _ _ (tP hs hd zl ?_);clear hK K hs hd zl s47 s48;intro a hs hd zl;have hB11:=hB.trans (hb11.mono hwb);refine wn 1 ?_;clear hs hd zl;intro a hs hd zl;refine wp_ret ?_;exact end_tmp rfl hd (vL zl 0) ⟨_,rfl,⟨l11,A11,k11,(by unfold Is;rw[hl11.out,hl10.out,Int.toNat_natCast,hl9.out];rfl),rfl,ho11.fm,ho11.cap,ho11.bs,fun k hk=>⟨Nat.le_trans hwb (ho11.blk_ge k hk).1,(ho11.blk_ge k hk).2⟩⟩,hB11⟩
 ·have e1:(x.fl == 2)=true:=htw;clear htw;refine wp_seq ?_;refine wp_seq ?_;refine fl2 [.eq 15 _,.eq 16 _,.eq 17 _,.eq 18 (.bool true),.eq 19 _,.eq 20 (.agg #[C.b.v,.int .i64 C.bt,C.bp.v]),.eq 21 (.bool false),.eq 22 (.bool true)] 8 hs hd zl
   ⟨sP bq,
    (stp rfl fun a u hb hs hl hd K hK=>by have s15:=gD hd 0;have d0:=cell_up hb d0;clear hd;go_simp;exact kE hK hs),
    (stp rfl fun a u hb hs hl hd K hK=>by have s16:=gD hd 1;clear hd;go_simp;exact kE hK hs),
    (stp rfl fun a u hb hs hl hd K hK=>by have s17:=gD hd 2;clear hd;go_simp;exact kE hK hs),
    (fun a u hb hs hl hd K hK=>by have s4:=gL hl 2;have g18:=vD hd 3;clear hd;refine step_yes rfl (j:=3) (d:=18) rfl rfl g18 ?_;go_simp;exact kE hK hs),
    (fun a u hb hs hl hd K hK=>by
     have s19:=gD hd 4;have d0:=cell_up hb d0;have g18:=vD hd 3;clear hd;refine step_yes rfl (j:=3) (d:=18) rfl rfl g18 ?_;refine op_load_part 69 (.tmp 19) rfl g 2 (gu s19) _ _ #[C.b.v,.int .i64 C.bt,C.bp.v] _ (hg.after hb) (show(2+3:Nat)≤6 by decide) rfl rfl (by kernel_rfl) rfl ?_;exact kE hK hs),
    (fun a u hb hs hl hd K hK=>by
     have s20:=gD hd 5;have d0:=cell_up hb d0;have g18:=vD hd 3;clear hd;refine step_yes rfl (j:=3) (d:=18) rfl rfl g18 ?_;unfold HSl.v at s20;go_simp;refine(c_specNone C.bt C.b.A C.bp.A C.b.c C.bp.c C.b.l.length C.bp.l.length _ H.out.b).mono ?_;rintro e w6 ⟨rfl,hb2⟩;exact hK _ _ hb2 (eq_put hs (by decide))),
    sY bq,
    trivial⟩ ?_
  clear hs hd zl;intro a w hb hs hd zl hh;replace zl:=lH hh 3 zl;replace zl:=lH hh 7 zl;clear hh;replace hg:=hg.after hb;replace hy:=hy.after hb;replace d0:=cell_up hb d0;replace hB:=bz_then hB hb;clear hb;refine wn 2 ?_;clear hs hd zl;intro a hs hd zl;refine tail_op rfl (fun K hK=>?_);have q24:=gL zl 0;have s24:=vL zl 0;refine op_load_part 69 (.tmp 24) rfl g 2 s24 _ _ #[C.b.v,.int .i64 C.bt,C.bp.v] _ hg (show(2+3:Nat)≤6 by decide) rfl rfl (by kernel_rfl) rfl ?_;clear q24;refine hK _ _ (tP hs hd zl ?_);clear hK K hs hd zl s24;intro a hs hd zl;refine tail_op rfl (fun K hK=>?_);have q25:=gL zl 0;unfold HSl.v at q25;go_simp;refine(c_BlkB C.bt C.b.A C.bp.A C.b.c C.bp.c C.b.l C.bp.l _ nt (hCb.after hB).bs (by have:=hlb.out;omega) (hCp.after hB).bs (by have:=hlp.out;omega)).mono ?_;rintro e w6 ⟨l1,A1,k1,hl1,rfl,ho1,hb2⟩;clear q25;refine hK _ _ (tP hs hd zl ?_);clear hK K hs hd zl;intro a hs hd zl;replace hB:=bz_then hB hb2;replace hg:=hg.after hb2;replace hy:=hy.after hb2;clear hb2;refine tail_op rfl (fun K hK=>?_);have q26:=gL zl 0;go_simp;refine(c_within 4 A1 k1 l1 _ (by omega) ho1.bs (by rw[hl1.out];have:=bidL_len C.b.l C.bt C.bp.l hlb.out nt.2 hlp.out;omega)).mono ?_;intro e w7 h;obtain⟨v8,rfl,hv8,hb3⟩:=h.at0;rw[hl1.out]at hv8;clear q26;refine hK _ _ (tP hs hd zl ?_);clear hK K hs hd zl;intro a hs hd zl;replace hB:=bz_then hB hb3;replace hg:=hg.after hb3;replace hy:=hy.after hb3;clear hb3;refine tail_op rfl (fun K hK=>?_);have q27:=gL zl 0;go_simp;clear q27;refine hK _ _ ?_;clear hK K;obtain⟨s27,s26,s25,s24,s23,-,-,s8,s0,s4,s7,-⟩:=zl;refine act_put (d:=8) _ hs hd (by decide) [(0,_),(4,_),(7,_),(23,_),(24,_),(25,_),(26,_),(27,_)] ⟨s0,s4,s7,s23,s24,s25,s26,s27,trivial⟩ rfl ?_;clear hs hd s0 s4 s7 s8 s23 s24 s25 s26 s27;intro a hs hd zl;replace hv8:BsAt 0 (if true=true then withinL 4 (bidL C.b.l C.bt C.bp.l)else[]) v8 _:=hv8
  skip
  clear e1 d0;have hlen:=Is.hid (bodyL_len true C.ht C.rd C.b.l C.bt C.bp.l x.sec x.ns ch hlb.out nt.2 hlp.out ns1 ns2 hch);have kc:=fun(w:World)=>Lib.run_convert_string_bytes (P:=Tryz.prog) w 9 32 5 (ch) Tryz.underlying9 Tryz.underlying32 Tryz.underlying5
  have n6:=numL_len 1 x.sec.toNat (by omega);have n7:=numL_len 2 x.ns.toNat (by omega);have hbl:=bytesOf_length ch;have a0:w7.cell? ⟨g,0,none⟩=some (.int .i64 C.ht):=by rw[hg.cell];rfl
  have a1:w7.cell? ⟨g,1,none⟩=some (.int .i64 C.rd):=by rw[hg.cell];rfl
  refine wp_seq ?_;obtain⟨s8,s0,s4,s7,-,-,-,-,-,-⟩:=zl;refine fl2 (F:=[(0,_),(4,_),(7,_),(8,_)]) [FItem.bs 28 0 (numL 1 2),.eq 29 _,.eq 30 _,FItem.bs 31 0 (fixL 2 C.ht.toNat),.eq 32 _,.eq 33 _,FItem.bs 34 0 (fixL 3 C.rd.toNat),FItem.bs 35 0 ((if true=true then withinL 4 (bidL C.b.l C.bt C.bp.l)else[])),.eq 36 _,.eq 37 (.agg #[.int .i64 x.sec,.int .i64 x.ns]),FItem.bs 38 0 (numL 1 x.sec.toNat++numL 2 x.ns.toNat),FItem.bs 39 0 (withinL 5 (numL 1 x.sec.toNat++numL 2 x.ns.toNat)),.eq 40 _,FItem.bs 41 0 (bytesOf ch),FItem.bs 42 0 (someL 6 (bytesOf ch)),FItem.ls 43 ([numL 1 2,fixL 2 C.ht.toNat,fixL 3 C.rd.toNat,(if true=true then withinL 4 (bidL C.b.l C.bt C.bp.l)else[]),withinL 5 (numL 1 x.sec.toNat++numL 2 x.ns.toNat),someL 6 (bytesOf ch)]),FItem.bs 44 0 (bodyL true C.ht C.rd C.b.l C.bt C.bp.l x.sec x.ns ch)] 17 hs hd ⟨s0,s4,s7,s8,trivial⟩
   ⟨(stp rfl fun a u hb hs hl hd K hK=>by
     have a0:=cell_up hb a0;have a1:=cell_up hb a1;clear hd;go_simp;refine(c_number 1 2 _ (by omega) (by omega) (by omega)).mono ?_;intro e w3 h;obtain⟨v,rfl,hv,hb2⟩:=h.at0;exact hK _ _ hb2 (bs_put hs (by decide) hv)),
    sP bq,
    sP bq,
    (stp rfl fun a u hb hs hl hd K hK=>by
     have s30:=gD hd 2;have a0:=cell_up hb a0;have a1:=cell_up hb a1;clear hd;go_simp;refine(c_fixed 2 C.ht _ (by omega) nh.1 nh.2).mono ?_;intro e w3 h;obtain⟨v,rfl,hv,hb2⟩:=h.at0;exact hK _ _ hb2 (bs_put hs (by decide) hv)),
    sP bq,
    sP bq,
    (stp rfl fun a u hb hs hl hd K hK=>by
     have s33:=gD hd 5;have a0:=cell_up hb a0;have a1:=cell_up hb a1;clear hd;go_simp;refine(c_fixed 3 C.rd _ (by omega) nr.1 nr.2).mono ?_;intro e w3 h;obtain⟨v,rfl,hv,hb2⟩:=h.at0;exact hK _ _ hb2 (bs_put hs (by decide) hv)),
    (stp rfl fun a u hb hs hl hd K hK=>by
     have s8:=gL hl 3;have a0:=cell_up hb a0;have a1:=cell_up hb a1;clear hd;go_simp;exact hK _ _ (Below.refl _ _) (bs_put hs (by decide) (hv8.after hb))),
    sP bq,
    (stp rfl fun a u hb hs hl hd K hK=>by
     have s36:=gD hd 8;have a0:=cell_up hb a0;have a1:=cell_up hb a1;clear hd;refine op_load_part 68 (.tmp 36) rfl y 2 (gu s36) _ _ #[.int .i64 x.sec,.int .i64 x.ns] _ (hy.after hb) (show(2+2:Nat)≤5 by decide) rfl rfl (by kernel_rfl) rfl ?_;exact kE hK hs),
    (stp rfl fun a u hb hs hl hd K hK=>by
     have s37:=gD hd 9;have a0:=cell_up hb a0;have a1:=cell_up hb a1;clear hd;go_simp;refine(c_MomB x.sec x.ns _ ns1 ns2).mono ?_;intro e w3 h;obtain⟨v,rfl,hv,hb2⟩:=h.at0;exact hK _ _ hb2 (bs_put hs (by decide) hv)),
    (stp rfl fun a u hb hs hl hd K hK=>by
     have i38:=FItem.bs_holds.1 (dep_get0 hd 10 (by kernel_rfl));obtain⟨v38,e38⟩:∃v,Is (a.tmps.getD 38 undef) v:=is_self _;rw[e38.out]at i38;have s38:=gd e38.out;have a0:=cell_up hb a0;have a1:=cell_up hb a1;clear hd;obtain⟨x38,A38,k38,hx38,rfl,f38,n38,b38,-⟩:=i38;go_simp;refine(c_within 5 A38 k38 x38 _ (by omega) b38 (by rw[hx38.out,List.length_append];omega)).mono ?_;intro e w3 h;rw[hx38.out]at h;obtain⟨v,rfl,hv,hb2⟩:=h.at0;exact hK _ _ hb2 (bs_put hs (by decide) hv)),
    sP bq,
    (stp rfl fun a u hb hs hl hd K hK=>by
     have s40:=gD hd 12;have a0:=cell_up hb a0;have a1:=cell_up hb a1;clear hd;go_simp;exact hK _ _ (bz_bytes (bz_refl _) _ _) (bs_put hs (by decide) (conv_at _ _ _))),
    (stp rfl fun a u hb hs hl hd K hK=>by
     have i41:=FItem.bs_holds.1 (dep_get0 hd 13 (by kernel_rfl));obtain⟨v41,e41⟩:∃v,Is (a.tmps.getD 41 undef) v:=is_self _;rw[e41.out]at i41;have s41:=gd e41.out;have a0:=cell_up hb a0;have a1:=cell_up hb a1;clear hd;obtain⟨x41,A41,k41,hx41,rfl,f41,n41,b41,-⟩:=i41;go_simp;refine(c_some 6 A41 k41 x41 _ (by omega) b41 (by rw[hx41.out,hbl];omega)).mono ?_;intro e w3 h;rw[hx41.out]at h;obtain⟨v,rfl,hv,hb2⟩:=h.at0;exact hK _ _ hb2 (bs_put hs (by decide) hv)),
    (stp rfl fun a u hb hs hl hd K hK=>by
     have i28:=FItem.bs_holds.1 (dep_get0 hd 0 (by kernel_rfl));obtain⟨v28,e28⟩:∃v,Is (a.tmps.getD 28 undef) v:=is_self _;rw[e28.out]at i28;have s28:=gd e28.out;have i31:=FItem.bs_holds.1 (dep_get0 hd 3 (by kernel_rfl));obtain⟨v31,e31⟩:∃v,Is (a.tmps.getD 31 undef) v:=is_self _;rw[e31.out]at i31;have s31:=gd e31.out;have i34:=FItem.bs_holds.1 (dep_get0 hd 6 (by kernel_rfl));obtain⟨v34,e34⟩:∃v,Is (a.tmps.getD 34 undef) v:=is_self _;rw[e34.out]at i34;have s34:=gd e34.out;have i35:=FItem.bs_holds.1 (dep_get0 hd 7 (by kernel_rfl));obtain⟨v35,e35⟩:∃v,Is (a.tmps.getD 35 undef) v:=is_self _;rw[e35.out]at i35;have s35:=gd e35.out;have i39:=FItem.bs_holds.1 (dep_get0 hd 11 (by kernel_rfl));obtain⟨v39,e39⟩:∃v,Is (a.tmps.getD 39 undef) v:=is_self _;rw[e39.out]at i39;have s39:=gd e39.out;have i42:=FItem.bs_holds.1 (dep_get0 hd 14 (by kernel_rfl));obtain⟨v42,e42⟩:∃v,Is (a.tmps.getD 42 undef) v:=is_self _;rw[e42.out]at i42;have s42:=gd e42.out;have a0:=cell_up hb a0;have a1:=cell_up hb a1;clear hd;have j28:=i28;obtain⟨x28,A28,k28,-,rfl,-,-,-,-⟩:=j28;have j31:=i31;obtain⟨x31,A31,k31,-,rfl,-,-,-,-⟩:=j31;have j34:=i34;obtain⟨x34,A34,k34,-,rfl,-,-,-,-⟩:=j34;have j35:=i35;obtain⟨x35,A35,k35,-,rfl,-,-,-,-⟩:=j35;have j39:=i39;obtain⟨x39,A39,k39,-,rfl,-,-,-,-⟩:=j39;have j42:=i42;obtain⟨x42,A42,k42,-,rfl,-,-,-,-⟩:=j42;go_simp;exact hK _ _ (bz_alloc (bz_refl _) _) (ls_put hs (by decide) (LsAt.new (vs:=[.slice A28 x28.length k28,.slice A31 x31.length k31,.slice A34 x34.length k34,.slice A35 x35.length k35,.slice A39 x39.length k39,.slice A42 x42.length k42]) ⟨i28,i31,i34,i35,i39,i42,trivial⟩ (by simp)))),
    (stp rfl fun a u hb hs hl hd K hK=>by
     have i43:=FItem.ls_holds.1 (dep_get0 hd 15 (by kernel_rfl));obtain⟨v43,e43⟩:∃v,Is (a.tmps.getD 43 undef) v:=is_self _;rw[e43.out]at i43;have s43:=gd e43.out;have a0:=cell_up hb a0;have a1:=cell_up hb a1;clear hd;go_simp;refine(i43.joined (by simp) (by rw[flat6];exact Nat.le_trans hlen.out (by decide))).mono ?_;intro e w3 h;rw[flat6]at h;obtain⟨v,rfl,hv,hb2⟩:=h.at0;exact hK _ _ hb2 (bs_put hs (by decide) hv)),
    trivial⟩ ?_
  clear hs hd s0 s4 s7 s8;intro a w hb hs hd zl hh;have i44:=FItem.bs_holds.1 (hold_get hh 16);obtain⟨v44,s44⟩:∃v,a.tmps.getD 44 undef=v:=⟨_,rfl⟩;rw[s44]at i44;clear hh;replace hg:=hg.after hb;replace hy:=hy.after hb;replace a0:=cell_up hb a0;replace a1:=cell_up hb a1;replace hB:=bz_then hB hb;clear hb;show wpList _ _ _ [_] _ _
  refine tail_op rfl (fun K hK=>?_);have q44:=gd s44;go_simp;clear q44;refine hK _ _ ?_;clear hK K;obtain⟨-,-,-,-,-⟩:=zl;refine act_put (d:=9) _ hs hd (by decide) [(44,_)] ⟨s44,trivial⟩ rfl ?_;clear hs hd s44;intro a hs hd zl;obtain⟨l9,A9,k9,hl9,rfl,f9,c9,b9,-⟩:=i44;have n9:l9.length≤9000000000:=by rw[hl9.out];exact hlen.out
  have hwb:=hB.size;refine wn 2 ?_;clear hs hd zl;intro a hs hd zl;refine tail_op rfl (fun K hK=>?_);have q46:=gL zl 0;go_simp;refine(c_counted (l9.length:Int) _ (by omega) (by omega)).mono ?_;rintro e w10 ⟨l10,A10,k10,hl10,rfl,ho10,hb10⟩;have n10:=vi_len63 l9.length (by omega);have n11:l10.length≤10:=by rw[hl10.out,Int.toNat_natCast];exact n10
  clear q46;refine hK _ _ (tP hs hd zl ?_);clear hK K hs hd zl;intro a hs hd zl;replace hB:=bz_then hB hb10;refine wn 1 ?_;clear hs hd zl;intro a hs hd zl;refine tail_op rfl (fun K hK=>?_);have q47:=gL zl 1;have q48:=gL zl 0;have s47:=vL zl 1;have s48:=vL zl 0;refine op_app_u8 (.tmp 47) (.tmp 48) rfl (l2:=l9) (c2:=k9) s47 s48 ho10 (b9.after hb10) (by omega) hb10.size ?_;intro l11 A11 k11 w11 hl11 _ ho11 hb11 _ hat;clear hat;clear q47 q48;refine hK _ _ (tP hs hd zl ?_);clear hK K hs hd zl s47 s48;intro a hs hd zl;have hB11:=hB.trans (hb11.mono hwb);refine wn 1 ?_;clear hs hd zl;intro a hs hd zl;refine wp_ret ?_;exact end_tmp rfl hd (vL zl 0) ⟨_,rfl,⟨l11,A11,k11,(by unfold Is;rw[hl11.out,hl10.out,Int.toNat_natCast,hl9.out];rfl),rfl,ho11.fm,ho11.cap,ho11.bs,fun k hk=>⟨Nat.le_trans hwb (ho11.blk_ge k hk).1,(ho11.blk_ge k hk).2⟩⟩,hB11⟩
theorem OwnR.ne{e T:TypeId}{k base c y:Nat}{w:World}{A:Option Addr}{R:List (List Value)}{cs:Array Value}(h:OwnR e k base w A c R)(hy:Blk w y T cs)(hT:e≠T):blkOf A≠some y:=by
 rcases h.form with⟨rfl,_,_⟩|⟨g,cur,rfl,_,_,hg,_⟩
 ·simp[blkOf]
 ·intro e1;injection e1 with e1;have e1:g=y:=e1;subst e1;unfold Blk at hg hy;rw[hg]at hy;injection hy with hy;injection hy with _ hy;exact hT hy
theorem OwnR.setCell{e T:TypeId}{k base c y o:Nat}{w:World}{A:Option Addr}{R:List (List Value)}{cs:Array Value}{u:Value}(h:OwnR e k base w A c R)(hy:Blk w y T cs)(hT:e≠T):OwnR e k base (w.setCell ⟨y,o,none⟩ u) A c R:=by
 have hn:=h.ne hy hT;refine⟨h.1,World.ownsRow.kept h.2 (gb_set (gb_refl w (some y)) o u) ?_⟩;rw[ownBlock_slice]
 cases hA:blkOf A with
 |none=>exact .inl rfl
 |some g=>exact .inr (by rw[← hA];exact hn)
theorem OwnR.setRow{e T:TypeId}{k base c y:Nat}{w:World}{A:Option Addr}{R:List (List Value)}{cs:Array Value}(h:OwnR e k base w A c R)(hy:Blk w y T cs)(hT:e≠T)(cs':Array Value):OwnR e k base (w.setRow y cs') A c R:=by
 have hn:=h.ne hy hT;refine⟨h.1,World.ownsRow.kept h.2 (gb_setRow w y cs') ?_⟩;rw[ownBlock_slice]
 cases hA:blkOf A with
 |none=>exact .inl rfl
 |some g=>exact .inr (by rw[← hA];exact hn)
def icCells(ht rd:Int)(b:HSl)(bt:Int)(bp:HSl)(A:Option Addr)(n c:Nat):Array Value:=#[.int .i64 ht,.int .i64 rd,b.v,.int .i64 bt,bp.v,.slice A n c]
theorem c_commit(C:Ic)(w:World)(hrows:RowsAt w C.A 5 (sgRows C.S))(hn20:C.S.length≤100):
  Calls Tryz.prog 39 #[.agg C.cells] w fun e w'=>∃A' c',e=.returned (.agg (icCells C.ht C.rd C.b C.bt C.bp (A') (C.S.length) (c')))∧OwnR 136 5 w.heap.size w' A' c' (sgRows C.S)∧Below w.heap.size w w':=by
 suffices h:∀w0,(RowsAt w0 C.A 5 (sgRows C.S))→Below w0.heap.size w0 w→Calls Tryz.prog 39 #[.agg C.cells] w fun e w'=>∃A' c',e=.returned (.agg (icCells C.ht C.rd C.b C.bt C.bp (A') (C.S.length) (c')))∧OwnR 136 5 w0.heap.size w' A' c' (sgRows C.S)∧Below w0.heap.size w0 w' from h w hrows (bz_refl w)
 clear hrows;intro w0 hrows hB;refine enter_abs Tryz.func39 rfl 36 rfl (by simp) ?_;intro a hs hd hargs;have s0:=hargs 0 _ rfl;clear hargs;refine wp_seq ?_;refine wp_region_list ?_;show wpList _ _ _ [_,_] _ _
 refine tail_op rfl (fun K hK=>?_);have q0:=gd s0;go_simp;clear q0;refine hK _ _ ?_;clear hK K;refine act_put (d:=1) _ hs hd (by decide) [(0,_)] ⟨s0,trivial⟩ rfl ?_;clear hs hd s0;intro a hs hd zl;obtain⟨g,hE⟩:∃B,Is w.heap.size B:=is_self _;generalize hw1:World.alloc w _=w1;have hg:Blk w1 g 41 C.cells:=by rw[← hw1,← hE.out];exact Blk.new w _ _
 have hB1:Below w.heap.size w w1:=by rw[← hw1];exact bz_alloc (bz_refl w) _
 replace hB:=bz_then hB hB1;obtain⟨s1,s0,-⟩:=zl;rw[hE.out]at s1;clear hw1 hB1 hE;refine tail_op rfl (fun K hK=>?_);go_simp;refine hK _ _ ?_;clear hK K;refine act_put (d:=2) _ hs hd (by decide) [(0,_),(1,_)] ⟨s0,s1,trivial⟩ rfl ?_;clear hs hd s0 s1;intro a hs hd zl;obtain⟨z,hE⟩:∃B,Is w1.heap.size B:=is_self _;generalize hw1:World.alloc w1 _=w2;have hz:Blk w2 z 91 #[.int .i64 0,.int .i64 0,.slice none 0 0,.int .i64 0,.slice none 0 0,.slice none 0 0]:=by rw[← hw1,← hE.out];exact Blk.new w1 _ _
 have hB1:Below w1.heap.size w1 w2:=by rw[← hw1];exact bz_alloc (bz_refl w1) _
 have hBz:=Nat.le_trans hB.size (Nat.le_of_eq hE.out);replace hB:=bz_then hB hB1;replace hg:=hg.after hB1;obtain⟨s2,s0,s1,-⟩:=zl;rw[hE.out]at s2;clear hw1 hB1 hE;clear s0;have c0:w2.cell? ⟨g,0,none⟩=some (.int .i64 C.ht):=by rw[hg.cell];rfl
 have c1:w2.cell? ⟨g,1,none⟩=some (.int .i64 C.rd):=by rw[hg.cell];rfl
 have c5:w2.cell? ⟨g,5,none⟩=some (.slice C.A C.S.length C.c):=by rw[hg.cell];rfl
 refine wp_seq ?_;refine wp_region_list ?_;show wpList _ _ _ [_,_,_,_,_,_,_,_,_] _ _
 refine tail_op rfl (fun K hK=>?_);have q1:=gd s1;go_simp;clear q1;refine hK _ _ ?_;clear hK K;refine act_put (d:=6) _ hs hd (by decide) [(1,_),(2,_)] ⟨s1,s2,trivial⟩ rfl ?_;clear hs hd s1 s2;intro a hs hd zl;refine wn 4 ?_;clear hs hd zl;intro a hs hd zl;refine tail_op rfl (fun K hK=>?_);have q10:=gL zl 0;have s10:=vL zl 0;refine op_load_part 34 (.tmp 10) rfl g 2 s10 _ _ #[C.b.v,.int .i64 C.bt,C.bp.v] _ hg (show(2+3:Nat)≤6 by decide) rfl rfl (by kernel_rfl) rfl ?_;clear q10;refine hK _ _ (tP hs hd zl ?_);clear hK K hs hd zl s10;intro a hs hd zl;refine tail_op rfl (fun K hK=>?_);have q7:=gL zl 4;have q9:=gL zl 2;have q11:=gL zl 0;unfold HSl.v at q11;go_simp;clear q7 q9 q11;refine hK _ _ (tP hs hd zl ?_);clear hK K hs hd zl;intro a hs hd zl;refine tail_op rfl (fun K hK=>?_);go_simp;refine hK _ _ (tP hs hd zl ?_);clear hK K hs hd zl;intro a hs hd zl;refine tail_op rfl (fun K hK=>?_);have q3:=gL zl 0;have q12:=gL zl 1;have s3:=vL zl 0;have s12:=vL zl 1;refine op_store_row 91 (.tmp 3) (.tmp 12) rfl w2.heap.size s3 (icCells C.ht C.rd C.b C.bt C.bp (none) (0) (0)) s12 91 _ (Blk.new w2 _ _) rfl (by kernel_rfl) (fun v hv=>by simp only[icCells,HSl.v,List.mem_cons,List.not_mem_nil,or_false]at hv;rcases hv with rfl|rfl|rfl|rfl|rfl|rfl <;> rfl) ?_;clear q3 q12;refine hK _ _ ?_;clear hK K;change wpList _ _ _ _ a _;rw[setRow_alloc_at _ _ _ _ _ rfl];have hzl:=hz.lt;obtain⟨y,hE⟩:∃B,Is w2.heap.size B:=is_self _;generalize hw1:World.alloc w2 _=w3;have hy:Blk w3 y 91 (icCells C.ht C.rd C.b C.bt C.bp (none) (0) (0)):=by rw[← hw1,← hE.out];exact Blk.new w2 _ _
 have hB1:Below w2.heap.size w2 w3:=by rw[← hw1];exact bz_alloc (bz_refl w2) _
 have hBy:=Nat.le_trans hB.size (Nat.le_of_eq hE.out);have hzy:z≠y:=by rw[← hE.out];omega
 replace hB:=bz_then hB hB1;replace hg:=hg.after hB1;replace hz:=hz.after hB1;clear s3 s12;obtain⟨s3,s12,s11,s10,s9,s8,s7,s6,s1,s2,-⟩:=zl;rw[hE.out]at s3;clear hw1 hB1 hE;replace c5:=cell_up (bz_refl w3) ((hg.cell 5).trans (show _=some (.slice C.A C.S.length C.c)from rfl));clear c0 c1 hzl;clear s6 s7 s8 s9 s10 s11 s12;obtain⟨n,hn⟩:∃n,Is C.S.length n:=is_self _;have hn100:n≤100:=by rw[← hn.out];exact hn20
 rw[hn.out]at c5;refine wp_seq ?_;refine wp_seq ?_;refine wp_region_list ?_;show wpList _ _ _ [_,_,_,_] _ _
 refine tail_op rfl (fun K hK=>?_);have q1:=gd s1;go_simp;clear q1;refine hK _ _ ?_;clear hK K;refine act_put (d:=13) _ hs hd (by decide) [(1,_),(2,_),(3,_)] ⟨s1,s2,s3,trivial⟩ rfl ?_;clear hs hd s1 s2 s3;intro a hs hd zl;refine wn 3 ?_;clear hs hd zl;intro a hs hd zl;clear c5 hg;refine wp_block ?_;obtain⟨s16,s15,s14,-,-,s2,s3,-⟩:=zl;refine wp_loop (fun a w=>∃(k:Nat) (A':Option Addr) (c':Nat),SzIs a 36∧DfNil a∧LiveAll [(2,.pointer (some ⟨z,0,none⟩)),(3,.pointer (some ⟨y,0,none⟩)),(14,.slice C.A n C.c),(15,.int .i64 ((n:Nat):Int)),(16,.int .i64 ((k:Nat):Int))] a∧(k≤n)∧(Below w0.heap.size w0 w)∧(Blk w z 91 #[.int .i64 0,.int .i64 0,.slice none 0 0,.int .i64 0,.slice none 0 0,.slice none 0 0])∧(Blk w y 91 (icCells C.ht C.rd C.b C.bt C.bp (A') (k) (c')))∧(OwnR 136 5 w0.heap.size w A' c' (sgRows (C.S.take k))))
  (fun a _=>n-(intOf (a.tmps.getD 16 undef)).toNat) ⟨0,none,0,hs,hd,⟨s2,s3,s14,s15,s16,trivial⟩,Nat.zero_le _,hB,hz,hy,OwnR.nil _ _ _ _⟩ ?_
 clear hs hd s2 s3 s14 s15 s16;rintro a w ⟨k,A',c',hs,hd,⟨s2,s3,s14,s15,s16,-⟩,hk,hB,hz,hy,hown⟩;have hm:(intOf (a.tmps.getD 16 undef)).toNat=k:=by rw[s16];simp[intOf]
 rw[hm];clear hm;by_cases hlt:k<n
 ·have e1:decide (k<n)=true:=decide_eq_true hlt;have e2:decide ((k:Int)<(n:Int))=true:=decide_eq_true (by omega);have ew:IntKind.i64.wrap ((k:Int)+1)=((k+1:Nat):Int):=by rw[IntWalk.i64_in _ (by omega)];omega
  obtain⟨x,hxk⟩:∃x,C.S[k]?=some x:=⟨C.S[k]'(by rw[hn.out];exact hlt),List.getElem?_eq_getElem (by rw[hn.out];exact hlt)⟩;have HX:=Is.hid hxk;obtain⟨b0,o0,hA,hb0,hcells⟩:=(hrows.after hB).at_ (by rw[sgRows_length,hn.out];omega);have hck:=hcells k x.cells (sgRows_get hxk);rw[hA]at s14;clear hcells hxk hb0;refine wp_seq ?_;refine wp_region_list ?_;show wpList _ _ _ [_] _ _
  refine tail_op rfl (fun K hK=>?_);have q15:=gd s15;have q16:=gd s16;go_simp;clear q15 q16;refine hK _ _ ?_;clear hK K;refine act_put (d:=17) _ hs hd (by decide) [(2,_),(3,_),(14,_),(15,_),(16,_)] ⟨s2,s3,s14,s15,s16,trivial⟩ rfl ?_;clear hs hd s2 s3 s14 s15 s16;intro a hs hd zl;refine wn 1 ?_;clear hs hd zl;intro a hs hd zl;refine tail_op rfl (fun K hK=>?_);have q18:=gL zl 0;have s18:=vL zl 0;refine op_load_cells 59 (.tmp 18) rfl b0 _ s18 x.cells _ hck.2 rfl rfl (by kernel_rfl) ?_;clear q18;refine hK _ _ (tP hs hd zl ?_);clear hK K hs hd zl s18;intro a hs hd zl;refine tail_op rfl (fun K hK=>?_);go_simp;refine hK _ _ (tP hs hd zl ?_);clear hK K hs hd zl;intro a hs hd zl;refine tail_op rfl (fun K hK=>?_);have q5:=gL zl 0;have q19:=gL zl 1;have s5:=vL zl 0;have s19:=vL zl 1;refine op_store_row 59 (.tmp 5) (.tmp 19) rfl w.heap.size s5 _ s19 59 _ (Blk.new w _ _) rfl (by kernel_rfl) x.one ?_;clear q5 q19;refine hK _ _ ?_;clear hK K;change wpList _ _ _ _ a _;rw[setRow_alloc_at _ _ _ _ _ rfl];obtain⟨q,hE⟩:∃B,Is w.heap.size B:=is_self _;generalize hw1:World.alloc w _=w1;have hq:Blk w1 q 59 x.cells.toArray:=by rw[← hw1,← hE.out];exact Blk.new w _ _
  have hB1:Below w.heap.size w w1:=by rw[← hw1];exact bz_alloc (bz_refl w) _
  replace hB:=bz_then hB hB1;replace hz:=hz.after hB1;replace hy:=hy.after hB1;replace hown:=hown.after hB1;clear s5 s19;obtain⟨s5,s19,s18,s17,s2,s3,s14,s15,s16,-⟩:=zl;rw[hE.out]at s5;clear hw1 hB1 hE;clear hck;clear s17 s18 s19;have d0:w1.cell? ⟨q,0,none⟩=some (.int .i64 x.fl):=by rw[hq.cell];rfl
  have d1:w1.cell? ⟨q,1,none⟩=some (.string x.ad):=by rw[hq.cell];rfl
  have d4:w1.cell? ⟨q,4,none⟩=some (.slice x.sg.A x.sg.l.length x.sg.c):=by rw[hq.cell];rfl
  have dy:w1.cell? ⟨y,5,none⟩=some (.slice A' k c'):=by rw[hy.cell];rfl
  have hRk:(sgRows (C.S.take k)).length=k:=by rw[sgRows_length,List.length_take,hn.out];omega
  have hR2:(sgRows (C.S.take k)++[x.cells]).length=k+1:=by rw[List.length_append,hRk];rfl
  have hR3:sgRows (C.S.take k)++[x.cells]=sgRows (C.S.take (k+1)):=by unfold sgRows;rw[List.take_add_one,List.map_append,HX.out];rfl
  have HR:=Is.hid hRk;have HR2:=Is.hid hR2;have HR3:=Is.hid hR3;clear hRk hR2 hR3;refine wp_region_list ?_;show wpList _ _ _ [_,_,_,_,_,_,_,_,_,_,_,_,_,_,_] _ _
  refine tail_op rfl (fun K hK=>?_);have q3:=gd s3;go_simp;clear q3;refine hK _ _ ?_;clear hK K;refine act_put (d:=20) _ hs hd (by decide) [(2,_),(3,_),(5,_),(14,_),(15,_),(16,_)] ⟨s2,s3,s5,s14,s15,s16,trivial⟩ rfl ?_;clear hs hd s2 s3 s5 s14 s15 s16;intro a hs hd zl;refine wn 6 ?_;clear hs hd zl;intro a hs hd zl;refine tail_op rfl (fun K hK=>?_);have q26:=gL zl 0;have s26:=vL zl 0;refine op_load_part 31 (.tmp 26) rfl q 2 s26 _ _ #[.int .i64 x.sec,.int .i64 x.ns] _ hq (show(2+2:Nat)≤5 by decide) rfl rfl (by kernel_rfl) rfl ?_;clear q26;refine hK _ _ (tP hs hd zl ?_);clear hK K hs hd zl s26;intro a hs hd zl;refine wn 3 ?_;clear hs hd zl;intro a hs hd zl;refine tail_op rfl (fun K hK=>?_);have q30:=gL zl 0;go_simp;clear q30;refine hK _ _ (tP hs hd zl ?_);clear hK K hs hd zl;intro a hs hd zl;obtain⟨u,hE⟩:∃B,Is w1.heap.size B:=is_self _;generalize hw1:World.alloc w1 _=w4;have hu:Blk w4 u 136 x.cells.toArray:=by rw[← hw1,← hE.out];exact Blk.new w1 _ _
  have hB1:Below w1.heap.size w1 w4:=by rw[← hw1];exact bz_alloc (bz_refl w1) _
  replace hB:=bz_then hB hB1;replace hz:=hz.after hB1;replace hy:=hy.after hB1;replace hown:=hown.after hB1;replace hq:=hq.after hB1;obtain⟨s31,s30,s29,s28,s27,s26,s25,s24,s23,s22,s21,s20,s2,s3,s5,s14,s15,s16,-⟩:=zl;rw[hE.out]at s31;clear hw1 hB1 hE;clear d0 d1 d4 dy hq;refine tail_op rfl (fun K hK=>?_);have q21:=gd s21;have q31:=gd s31;refine op_app_row (.tmp 21) (.tmp 31) rfl Tryz.underlying89 sgs_info rfl (by decide) (R:=sgRows (C.S.take k)) (r:=x.cells) (by rw[HR.out];exact s21) s31 hown hu rfl x.one (by rw[HR.out];omega) (by decide) hB.size ?_;intro A2 c2 w5 hown2 hbel hgr hat;clear hat;rw[HR2.out];clear q21 q31;refine hK _ _ ?_;clear hK K;refine act_put (d:=32) _ hs hd (by decide) [(2,_),(3,_),(5,_),(14,_),(15,_),(16,_),(20,_),(21,_),(22,_),(23,_),(24,_),(25,_),(26,_),(27,_),(28,_),(29,_),(30,_),(31,_)] ⟨s2,s3,s5,s14,s15,s16,s20,s21,s22,s23,s24,s25,s26,s27,s28,s29,s30,s31,trivial⟩ rfl ?_;clear hs hd s2 s3 s5 s14 s15 s16 s20 s21 s22 s23 s24 s25 s26 s27 s28 s29 s30 s31;intro a hs hd zl;have hne:=hown.ne hy (by decide);have hne2:=hown.ne hz (by decide);replace hy:=gb_blk hgr hy (fun e=>hne e.symm);replace hz:=gb_blk hgr hz (fun e=>hne2 e.symm);replace hB:=hB.trans hbel;clear hbel hgr hne hne2 hown hu;refine wn 1 ?_;clear hs hd zl;intro a hs hd zl;refine tail_op rfl (fun K hK=>?_);have q32:=gL zl 1;have q33:=gL zl 0;have hfr:=hy.free 5;have hold:w5.cell? ⟨y,5,none⟩=some (.slice A' k c'):=by rw[hy.cell];rfl
  go_simp;clear hfr hold;clear q32 q33;refine hK _ _ ?_;clear hK K;change wpList _ _ _ _ a _;have hown3:=hown2.setCell (o:=5) (u:=.slice A2 (k+1) c2) hy (by decide);have hy2:Blk _ y 91 (icCells C.ht C.rd C.b C.bt C.bp (A2) (k+1) (c2)):=hy.set_ 5 (.slice A2 (k+1) c2);have hz2:=hz.far (p:=⟨y,5,none⟩) hzy (.slice A2 (k+1) c2);have hB2:=Below.setCell hB (p:=⟨y,5,none⟩) hBy (.slice A2 (k+1) c2);clear hown2 hy hz hB;revert hown3 hy2 hz2 hB2;generalize World.setCell _ _ _=w6;intro hown hy hz hB;rw[HR3.out]at hown;refine wn 1 ?_;clear hs hd zl;intro a hs hd zl;refine tail_op rfl (fun K hK=>?_);have q34:=gL zl 0;go_simp;clear q34;refine hK _ _ ?_;clear hK K;obtain⟨s34,-,-,s2,s3,-,s14,s15,s16,-,-,-,-,-,-,-,-,-,-,-,-,-⟩:=zl;refine act_put (d:=16) _ hs hd (by decide) [(2,_),(3,_),(14,_),(15,_),(34,_)] ⟨s2,s3,s14,s15,s34,trivial⟩ rfl ?_;clear hs hd s2 s3 s14 s15 s16 s34;intro a hs hd zl;obtain⟨s16,s2,s3,s14,s15,-,-⟩:=zl;rw[← hA]at s14;refine⟨⟨k+1,_,_,hs,hd,⟨s2,s3,s14,s15,s16,trivial⟩,hlt,hB,hz,hy,hown⟩,?_⟩;rw[s16];simp[intOf];omega
 obtain rfl:k=n:=by omega
 have e1:decide (k<k)=false:=decide_eq_false (by omega);clear hlt;refine wp_seq ?_;refine wp_region_list ?_;show wpList _ _ _ [_] _ _
 refine tail_op rfl (fun K hK=>?_);have q15:=gd s15;have q16:=gd s16;go_simp;clear q15 q16;refine hK _ _ ?_;clear hK K;refine act_put (d:=17) _ hs hd (by decide) [(2,_),(3,_),(14,_),(15,_),(16,_)] ⟨s2,s3,s14,s15,s16,trivial⟩ rfl ?_;clear hs hd s2 s3 s14 s15 s16;intro a hs hd zl;refine wp_seq ?_;refine wp_cond_false (vL zl 0) ?_;refine wp_exit ?_;repeat refine then_exit ?_
 refine inBlock_exit ?_;rw[List.take_of_length_le (by rw[hn.out];exact Nat.le_refl _)]at hown;refine wp_seq ?_;refine wp_region_list ?_;show wpList _ _ _ [_,_] _ _
 refine tail_op rfl (fun K hK=>?_);have q3:=gL zl 2;have s3:=vL zl 2;refine op_load_row 91 (.tmp 3) rfl y s3 _ _ _ hy rfl rfl (by kernel_rfl) ?_;clear q3;refine hK _ _ (tP hs hd zl ?_);clear hK K hs hd zl s3;intro a hs hd zl;refine tail_op rfl (fun K hK=>?_);have q2:=gL zl 2;have q35:=gL zl 0;have s2:=vL zl 2;have s35:=vL zl 0;refine op_store_row 91 (.tmp 2) (.tmp 35) rfl z s2 (icCells C.ht C.rd C.b C.bt C.bp (A') (k) (c')) s35 91 _ hz rfl (by kernel_rfl) (fun v hv=>by simp only[icCells,HSl.v,List.mem_cons,List.not_mem_nil,or_false]at hv;rcases hv with rfl|rfl|rfl|rfl|rfl|rfl <;> rfl) ?_;clear q2 q35;refine hK _ _ ?_;clear hK K;change wpList _ _ _ _ a _;have hz2:=hz.setRow (icCells C.ht C.rd C.b C.bt C.bp (A') (k) (c'));replace hown:=hown.setRow hz (by decide) (icCells C.ht C.rd C.b C.bt C.bp (A') (k) (c'));replace hB:=below_setRow hB hBz (icCells C.ht C.rd C.b C.bt C.bp (A') (k) (c'));generalize World.setRow _ _ _=w4 at hz2 hB hown⊢;clear s35;refine wp_ret ?_;exact end_row rfl z s2 hd.out 91 _ _ hz2 Tryz.underlying91 rfl (by kernel_rfl) ⟨_,_,by rw[hn.out],hown,hB⟩
theorem OwnR.empty{e:TypeId}{k base g:Nat}{w:World}(h:Blk w g e #[])(hb:base≤g):OwnR e k base w (some ⟨g,0,none⟩) 0 []:=
 ⟨(fun r hr=>by cases hr),by simp,.inr ⟨g,0,#[],rfl,hb,h,Nat.le_refl _,Nat.zero_le _,by simp,by simp⟩⟩
theorem c_Clone(S:List Sg)(A:Option Addr)(c:Nat)(w:World)(hrows:RowsAt w A 5 (sgRows S))(hn0:0<S.length)(hn20:S.length≤100):
  Calls Tryz.prog 36 #[.slice A S.length c] w fun e w'=>∃A' c',e=.returned (.slice A' S.length c')∧OwnR 59 5 w.heap.size w' A' c' (sgRows S)∧Below w.heap.size w w':=by
 suffices h:∀w0,(RowsAt w0 A 5 (sgRows S))→Below w0.heap.size w0 w→Calls Tryz.prog 36 #[.slice A S.length c] w fun e w'=>∃A' c',e=.returned (.slice A' S.length c')∧OwnR 59 5 w0.heap.size w' A' c' (sgRows S)∧Below w0.heap.size w0 w' from h w hrows (bz_refl w)
 clear hrows;intro w0 hrows hB;refine enter_abs Tryz.func36 rfl 8 rfl (by simp) ?_;intro a hs hd hargs;have s0:=hargs 0 _ rfl;clear hargs;obtain⟨b0,o0,rfl,hb0,-⟩:=hrows.at_ (by rw[sgRows_length];omega);obtain⟨n,hn⟩:∃n,Is S.length n:=is_self _;rw[hn.out]at s0 hn0 hn20;refine wp_seq ?_;refine wp_region_list ?_;show wpList _ _ _ [_] _ _
 refine tail_op rfl (fun K hK=>?_);go_simp;refine hK _ _ ?_;clear hK K;refine act_put (d:=2) _ hs hd (by decide) [(0,_)] ⟨s0,trivial⟩ rfl ?_;clear hs hd s0;intro a hs hd zl;refine wn 2 ?_;clear hs hd zl;intro a hs hd zl;refine wp_cond_false (vL zl 0) ?_;refine wp_skip ?_;refine wp_seq ?_;refine wp_region_list ?_;show wpList _ _ _ [_,_,_,_] _ _
 refine tail_op rfl (fun K hK=>?_);go_simp;refine hK _ _ (tP hs hd zl ?_);clear hK K hs hd zl;intro a hs hd zl;obtain⟨q,hE⟩:∃B,Is w.heap.size B:=is_self _;generalize hw1:World.alloc w _=w1;have hq:Blk w1 q 59 #[]:=by rw[← hw1,← hE.out];exact Blk.new w _ _
 have hB1:Below w.heap.size w w1:=by rw[← hw1];exact bz_alloc (bz_refl w) _
 have hq0:=Nat.le_trans hB.size (Nat.le_of_eq hE.out);replace hB:=bz_then hB hB1;obtain⟨s5,s4,-,-,s0,-⟩:=zl;rw[hE.out]at s5;clear hw1 hB1 hE;refine tail_op rfl (fun K hK=>?_);have q0:=gd s0;go_simp;clear q0;refine hK _ _ ?_;clear hK K;refine act_put (d:=6) _ hs hd (by decide) [(0,_),(4,_),(5,_)] ⟨s0,s4,s5,trivial⟩ rfl ?_;clear hs hd s0 s4 s5;intro a hs hd zl;refine tail_op rfl (fun K hK=>?_);have q5:=gL zl 3;have q6:=gL zl 0;have s5:=vL zl 3;have s6:=vL zl 0;refine op_app_rows (.tmp 5) (.tmp 6) rfl Tryz.underlying39 sgn_info rfl (by decide) (R1:=[]) (R:=sgRows S) s5 (by rw[sgRows_length,hn.out];exact s6) (OwnR.empty hq hq0) (hrows.after hB) (by rw[sgRows_length,hn.out];exact hn0) (fun r hr=>by obtain⟨s,_,rfl⟩:=List.mem_map.1 hr;exact s.one) (by rw[sgRows_length,hn.out];simp;omega) (by decide) hB.size ?_;intro A' c' w5 hown hbel _;rw[List.nil_append]at hown⊢;rw[sgRows_length,hn.out];clear q5 q6;refine hK _ _ (tP hs hd zl ?_);clear hK K hs hd zl s5 s6;intro a hs hd zl;replace hB:=hB.trans hbel;clear hbel;refine wn 1 ?_;clear hs hd zl;intro a hs hd zl;refine wp_ret ?_;exact end_tmp rfl hd (vL zl 0) ⟨_,_,by rw[hn.out],hown,hB⟩
def keyV(k a:HSl):Array Value:=#[.slice k.A k.l.length k.c,.slice a.A a.l.length a.c,.bool false]
theorem c_kType(k a:HSl)(w:World):Calls Tryz.prog 194 #[.agg (keyV k a)] w fun e w'=>e=.returned (.string ⟨#[112,108,97,105,110]⟩)∧Below w.heap.size w w':=by
 unfold keyV
 go_enter Tryz.func194,Tryz.ntmps194
 go_wp2
 go_ret
 exact⟨rfl,by(repeat' (first|exact Below.refl _ _|exact Nat.le_refl _|(with_reducible assumption)|refine Below.setCell ?_ ?_ _|refine Below.alloc ?_ ?_ _|refine below_drewN ?_ _|refine Below.drew ?_|(simp;done)|omega|(simp;omega)|(simp at *;omega)))⟩
theorem meth_kType(k a:HSl)(w:World):(method 252 159 (.agg (keyV k a)) "Type").run Tryz.prog w=.ok (194,.agg (keyV k a)) w:=by kernel_rfl
theorem meth_kVerify(k a:HSl)(w:World):(method 252 159 (.agg (keyV k a)) "VerifySignature").run Tryz.prog w=.ok (195,.agg (keyV k a)) w:=by kernel_rfl
theorem meth_kNilT(k a:HSl)(w:World):(nilAhead 252 159 (.agg (keyV k a)) "Type").run Tryz.prog w=.ok (some false) w:=by kernel_rfl
theorem meth_kNilV(k a:HSl)(w:World):(nilAhead 252 159 (.agg (keyV k a)) "VerifySignature").run Tryz.prog w=.ok (some false) w:=by kernel_rfl
theorem c_supBatch(k a:HSl)(w:World):Calls Tryz.prog 138 #[.iface 159 (.agg (keyV k a))] w fun e w'=>e=.returned (.bool false)∧Below w.heap.size w w':=by
 have m1:=meth_kType k a;have m2:=meth_kNilT k a
 go_enter Tryz.func138,Tryz.ntmps138
 go_wp2_with (go_at_call 194;refine(c_kType k a _).mono ?_;rintro e w1 ⟨rfl,hb1⟩;have hb:=(by first|exact bz_then hb hb1|exact hb1);clear hb1)
 go_ret
 exact⟨rfl,hb⟩
structure Vl where
 ad:HSl
 ky:HSl
 p:Int
 q:Int
def Vl.cells(v:Vl):Array Value:=#[v.ad.v,.iface 159 (.agg (keyV v.ky v.ad)),.int .i64 v.p,.int .i64 v.q]
structure VlAt(w:World)(P:Nat)(v:Vl):Prop where
 blk:Blk w P 163 v.cells
 ad:v.ad.ok w
 ky:v.ky.ok w
theorem VlAt.after{w w':World}{P:Nat}{v:Vl}(h:VlAt w P v)(hb:Below w.heap.size w w'):VlAt w' P v:=⟨h.blk.after hb,h.ad.after hb,h.ky.after hb⟩
def ptrRows(P:List Nat):List (List Value):=P.map fun p=>[.pointer (some ⟨p,0,none⟩)]
theorem ptrRows_length(P:List Nat):(ptrRows P).length=P.length:=List.length_map ..
theorem ptrRows_get{P:List Nat}{i p:Nat}(h:P[i]?=some p):(ptrRows P)[i]?=some [.pointer (some ⟨p,0,none⟩)]:=by unfold ptrRows;rw[List.getElem?_map,h];rfl
structure Vs where
 P:List Nat
 V:List Vl
 A:Option Addr
 c:Nat
 pr:Nat
 tot:Int
 same:Bool
def Vs.cells(S:Vs):Array Value:=#[.slice S.A S.P.length S.c,.pointer (some ⟨S.pr,0,none⟩),.int .i64 S.tot,.bool S.same]
structure Vs.in_(S:Vs)(w:World):Prop where
 len:S.P.length=S.V.length
 rows:RowsAt w S.A 1 (ptrRows S.P)
 vl:∀(i p:Nat) (v:Vl),S.P[i]?=some p→S.V[i]?=some v→VlAt w p v
 pr:S.pr∈S.P
theorem Vs.in_.after{S:Vs}{w w':World}(h:S.in_ w)(hb:Below w.heap.size w w'):S.in_ w':=⟨h.len,h.rows.after hb,fun i p v hp hv=>(h.vl i p v hp hv).after hb,h.pr⟩
theorem c_vsSize(S:Vs)(g:Nat)(w:World)(hg:Blk w g 157 S.cells):Calls Tryz.prog 76 #[.pointer (some ⟨g,0,none⟩)] w fun e w'=>e=.returned (.int .i64 ((S.P.length:Nat):Int))∧w'=w:=by
 have c0:w.cell? ⟨g,0,none⟩=some (.slice S.A S.P.length S.c):=by rw[hg.cell];rfl
 go_enter Tryz.func76,Tryz.ntmps76
 go_wp2
 go_ret
 exact⟨rfl,rfl⟩
theorem c_vsSame(S:Vs)(g:Nat)(w:World)(hg:Blk w g 157 S.cells):Calls Tryz.prog 140 #[.pointer (some ⟨g,0,none⟩)] w fun e w'=>e=.returned (.bool S.same)∧w'=w:=by
 have c3:w.cell? ⟨g,3,none⟩=some (.bool S.same):=by rw[hg.cell];rfl
 go_enter Tryz.func140,Tryz.ntmps140
 go_wp2
 go_ret
 exact⟨rfl,rfl⟩
theorem c_IsZero0(w:World):Calls Tryz.prog 127 #[.agg #[.int .i64 0,.int .i32 0]] w fun e w'=>e=.returned (.bool true)∧Below w.heap.size w w':=by
 go_enter Tryz.func127,Tryz.ntmps127
 go_wp2
 go_ret
 exact⟨rfl,by(repeat' (first|exact Below.refl _ _|exact Nat.le_refl _|(with_reducible assumption)|refine Below.setCell ?_ ?_ _|refine Below.alloc ?_ ?_ _|refine below_drewN ?_ _|refine Below.drew ?_|(simp;done)|omega|(simp;omega)|(simp at *;omega)))⟩
theorem c_csV1(A A':Option Addr)(c c':Nat)(w:World):Calls Tryz.prog 105 #[.agg #[.int .u8 1,.slice A 0 c,.int .i64 0,.int .i32 0,.slice A' 0 c']] w fun e w'=>e=.returned .nilIface∧Below w.heap.size w w':=by
 go_enter Tryz.func105,Tryz.ntmps105
 go_wp2_with (go_at_call 127;refine(c_IsZero0 _).mono ?_;rintro e w1 ⟨rfl,hb1⟩;obtain⟨hc,hf⟩:=bcell hb1;simp only[World.size_alloc]at hc)
 go_ret
 exact⟨rfl,bz_then (bz_alloc (bz_refl _) _) hb1⟩
theorem c_csV2(fl s n:Int)(hfl:fl=2∨fl=3)(A A':Option Addr)(c c':Nat)(w:World):Calls Tryz.prog 105 #[.agg #[.int .u8 fl,.slice A 20 c,.int .i64 s,.int .i32 n,.slice A' 32 c']] w fun e w'=>e=.returned .nilIface∧Below w.heap.size w w':=by
 rcases hfl with rfl|rfl;all_goals
  go_enter Tryz.func105,Tryz.ntmps105
  go_wp2
  go_ret
  exact⟨rfl,by(repeat' (first|exact Below.refl _ _|exact Nat.le_refl _|(with_reducible assumption)|refine Below.setCell ?_ ?_ _|refine Below.alloc ?_ ?_ _|refine below_drewN ?_ _|refine Below.drew ?_|(simp;done)|omega|(simp;omega)|(simp at *;omega)))⟩
theorem c_Copy(v:Vl)(p:Nat)(w:World)(hv:Blk w p 163 v.cells):
  Calls Tryz.prog 152 #[.pointer (some ⟨p,0,none⟩)] w fun e w'=>∃g,e=.returned (.pointer (some ⟨g,0,none⟩))∧w.heap.size≤g∧Blk w' g 163 v.cells∧Below w.heap.size w w':=by
 suffices h:∀w0,(Blk w0 p 163 v.cells)→Below w0.heap.size w0 w→Calls Tryz.prog 152 #[.pointer (some ⟨p,0,none⟩)] w fun e w'=>∃g,e=.returned (.pointer (some ⟨g,0,none⟩))∧w0.heap.size≤g∧Blk w' g 163 v.cells∧Below w0.heap.size w0 w' from h w hv (bz_refl w)
 clear hv;intro w0 hv hB;refine enter_abs Tryz.func152 rfl 7 rfl (by simp) ?_;intro a hs hd hargs;have s0:=hargs 0 _ rfl;clear hargs;refine wp_seq ?_;refine wp_region_list ?_;show wpList _ _ _ [_] _ _
 refine tail_op rfl (fun K hK=>?_);go_simp;refine hK _ _ ?_;clear hK K;refine act_put (d:=2) _ hs hd (by decide) [(0,_)] ⟨s0,trivial⟩ rfl ?_;clear hs hd s0;intro a hs hd zl;refine wn 2 ?_;clear hs hd zl;intro a hs hd zl;refine tail_op rfl (fun K hK=>?_);have q5:=gL zl 0;have s5:=vL zl 0;refine op_load_row 163 (.tmp 5) rfl p s5 _ _ _ (hv.after hB) rfl rfl (by kernel_rfl) ?_;clear q5;refine hK _ _ (tP hs hd zl ?_);clear hK K hs hd zl s5;intro a hs hd zl;refine tail_op rfl (fun K hK=>?_);go_simp;refine hK _ _ (tP hs hd zl ?_);clear hK K hs hd zl;intro a hs hd zl;refine tail_op rfl (fun K hK=>?_);have q3:=gL zl 0;have q6:=gL zl 1;have s3:=vL zl 0;have s6:=vL zl 1;refine op_store_row 163 (.tmp 3) (.tmp 6) rfl w.heap.size s3 _ s6 163 _ (Blk.new w _ _) rfl (by kernel_rfl) (fun u hu=>by simp only[Vl.cells,HSl.v,List.mem_cons,List.not_mem_nil,or_false]at hu;rcases hu with rfl|rfl|rfl|rfl <;> rfl) ?_;clear q3 q6;refine hK _ _ ?_;clear hK K;change wpList _ _ _ _ a _;rw[setRow_alloc_at _ _ _ _ _ rfl];obtain⟨g,hE⟩:∃B,Is w.heap.size B:=is_self _;generalize hw1:World.alloc w _=w1;have hg:Blk w1 g 163 v.cells:=by rw[← hw1,← hE.out];exact Blk.new w _ _
 have hB1:Below w.heap.size w w1:=by rw[← hw1];exact bz_alloc (bz_refl w) _
 have hge:=Nat.le_trans hB.size (Nat.le_of_eq hE.out);replace hB:=bz_then hB hB1;clear s3 s6;obtain⟨s3,s6,s5,s4,-,s0,-⟩:=zl;rw[hE.out]at s3;clear hw1 hB1 hE;clear s0 s4 s5 s6;refine wp_seq ?_;refine wp_region_list ?_;show wpList _ _ _ [_] _ _
 refine tail_op rfl (fun K hK=>?_);have q3:=gd s3;go_simp;clear q3;refine hK _ _ ?_;clear hK K;refine act_put (d:=2) _ hs hd (by decide) [(3,_)] ⟨s3,trivial⟩ rfl ?_;clear hs hd s3;intro a hs hd zl;refine wp_ret ?_;exact end_tmp rfl hd (vL zl 0) ⟨_,rfl,hge,hg,hB⟩
def sumP(V:List Vl):Int:=(V.map Vl.p).sum
theorem sumP_snoc(V:List Vl)(k:Nat)(v:Vl)(h:V[k]?=some v):sumP (V.take (k+1))=sumP (V.take k)+v.p:=by
 unfold sumP;rw[List.take_add_one,h,List.map_append,List.sum_append];simp
theorem sumP_le(V:List Vl)(hp:∀v∈V,0<v.p∧v.p≤1000000):0≤sumP V∧sumP V≤1000000*V.length:=by
 induction V with
 |nil=>simp[sumP]
 |cons v V ih=>
  have h1:=hp v (List.mem_cons_self ..);have h2:=ih fun u hu=>hp u (List.mem_cons_of_mem _ hu)
  unfold sumP at *;simp only[List.map_cons,List.sum_cons,List.length_cons];omega
theorem Vs.in_.get{S:Vs}{u:World}(h:S.in_ u){k:Nat}(hk:k<S.P.length):∃p v b o,S.A=some ⟨b,o,none⟩∧S.P[k]?=some p∧S.V[k]?=some v∧VlAt u p v∧u.cell? ⟨b,o+k,none⟩=some (.pointer (some ⟨p,0,none⟩)):=by
 have hk':k<S.V.length:=by rw[← h.len];exact hk
 have h1:=List.getElem?_eq_getElem hk;have h2:=List.getElem?_eq_getElem hk';obtain⟨_,b,o,e,_,hc⟩:=h.rows k [.pointer (some ⟨S.P[k],0,none⟩)] (by unfold ptrRows;rw[List.getElem?_map,h1];rfl);have:=hc 0 _ rfl;exact⟨_,_,b,o,e,h1,h2,h.vl k _ _ h1 h2,by simpa using this⟩
def Vs.summed(S:Vs):Vs:={S with tot:=sumP S.V}
theorem c_upd(S:Vs)(g:Nat)(w:World)(hg:Blk w g 157 S.cells)(hS:S.in_ w)(hp:∀v∈S.V,0<v.p∧v.p≤1000000)(hn:S.V.length≤1000):
  Calls Tryz.prog 137 #[.pointer (some ⟨g,0,none⟩)] w fun e w'=>e=.returned (.tuple #[])∧Blk w' g 157 S.summed.cells∧GB w w' g:=by
 have hpS:=sumP_le;refine en (sz:=28) rfl rfl rfl fun a hs hd zl=>?_
 have c0:w.cell? ⟨g,0,none⟩=some (.slice S.A S.P.length S.c):=hg.cell 0;refine wW ?_;clear hs hd zl;intro a hs hd zl;clear c0;refine wp_loop (fun a u=>∃k:Nat,SzIs a 28∧DfNil a∧LiveAll [(0,.pointer (some ⟨g,0,none⟩)),(2,.int .i64 (sumP (S.V.take k))),(8,.slice S.A S.P.length S.c),(9,.int .i64 ((S.P.length:Nat):Int)),(10,.int .i64 ((k:Nat):Int))] a∧k≤S.P.length∧Below w.heap.size w u)
  (fun a _=>S.P.length-(intOf (a.tmps.getD 10 undef)).toNat) ⟨0,hs,hd,ks zl,Nat.zero_le _,bz_refl w⟩ ?_
 clear hs hd zl;rintro a u ⟨k,hs,hd,zl,hk,hB⟩;have hm:(intOf (a.tmps.getD 10 undef)).toNat=k:=by rw[sl zl 10];simp[intOf]
 rw[hm];clear hm;by_cases hlt:k<S.P.length
 ·have e1:decide (k<S.P.length)=true:=decide_eq_true hlt;have ew:IntKind.i64.wrap ((k:Int)+1)=((k+1:Nat):Int):=by rw[IntWalk.i64_in _ (by rw[hS.len]at hlt;omega)];omega
  refine wW ?_;clear hs hd zl;intro a hs hd zl;obtain⟨p,v,b,o,eA,hPk,hVk,hv,ck⟩:=(hS.after hB).get hlt;rw[eA]at zl;have HP:=Is.hid hPk;have HV:=Is.hid hVk;have HA:=Is.hid eA;have cp:u.cell? ⟨p,2,none⟩=some (.int .i64 v.p):=hv.blk.cell 2;clear eA hPk hVk;refine wW ?_;clear hs hd zl;intro a hs hd zl;clear ck cp;have hb1:=(hpS (S.V.take k) (fun v hv=>hp v (List.mem_of_mem_take hv)));have hb2:(S.V.take k).length≤1000:=by rw[List.length_take];omega
  have hb3:=hp v (List.mem_of_getElem? HV.out);have hsn:=sumP_snoc S.V k v HV.out;refine tc (c_safeAddClip (sumP (S.V.take k)) v.p u (by omega) (by omega)) hs hd zl ?_;rintro _ u ⟨rfl,rfl⟩;refine⟨_,rfl,?_⟩;clear hs hd zl;intro a hs hd zl;rw[← hsn]at zl;have hb4:=(hpS (S.V.take (k+1)) (fun v hv=>hp v (List.mem_of_mem_take hv)));have hb5:(S.V.take (k+1)).length≤1000:=by rw[List.length_take];omega
  have e2:decide (1152921504606846975<sumP (S.V.take (k+1)))=false:=decide_eq_false (by omega);clear hb1 hb2 hb3 hsn;refine wW ?_;clear hs hd zl;intro a hs hd zl;rw[← HA.out]at zl;refine⟨⟨k+1,hs,hd,ks zl,hlt,hB⟩,?_⟩;rw[sl zl 10];simp[intOf];omega
 ·obtain rfl:k=S.P.length:=by omega
  have e1:decide (S.P.length<S.P.length)=false:=decide_eq_false (by omega);refine wW ?_;clear hs hd zl;intro a hs hd zl;refine wp_exit ?_;(repeat refine then_exit ?_);refine inBlock_exit ?_;have c2:=(hg.after hB).cell 2;have f2:=(hg.after hB).free 2;refine wW ?_;clear hs hd zl;intro a hs hd zl;refine ts hs hd zl ?_;clear hs hd zl;intro a hs hd zl;exact end_none rfl hd ⟨rfl,by rw[hS.len,List.take_length];exact(hg.after hB).set_ 2 _,((GB.refl w g).after hB).set 2 _⟩
theorem c_tvp(S:Vs)(g:Nat)(w:World)(hg:Blk w g 157 S.cells)(hS:S.in_ w)(hp:∀v∈S.V,0<v.p∧v.p≤1000000)(hn:S.V.length≤1000)(ht:S.tot=0∨S.tot=sumP S.V):
  Calls Tryz.prog 115 #[.pointer (some ⟨g,0,none⟩)] w fun e w'=>e=.returned (.int .i64 (sumP S.V))∧Blk w' g 157 S.summed.cells∧GB w w' g:=by
 refine en (sz:=14) rfl rfl rfl fun a hs hd zl=>?_
 obtain⟨tt,htt⟩:∃n,Is S.tot n:=is_self _;have c2:w.cell? ⟨g,2,none⟩=some (.int .i64 tt):=by rw[← htt.out];exact hg.cell 2
 rw[htt.out]at ht;by_cases h0:tt=0
 ·have e0:(tt == 0)=true:=by rw[h0];rfl
  clear ht h0;refine wW ?_;clear hs hd zl;intro a hs hd zl;refine tc (c_upd S g w hg hS hp hn) hs hd zl ?_;rintro _ u ⟨rfl,hg1,hG⟩;refine⟨_,rfl,?_⟩;clear hs hd zl;intro a hs hd zl;clear c2;have c2:u.cell? ⟨g,2,none⟩=some (.int .i64 (sumP S.V)):=hg1.cell 2;refine wW ?_;clear hs hd zl;intro a hs hd zl;refine wp_ret ?_;(repeat first|refine then_ret ?_|refine inBlock_ret ?_);exact end_tmp rfl hd (sl zl 2) ⟨rfl,hg1,hG⟩
 ·have e0:(tt == 0)=false:=by rw[beq_eq_false_iff_ne];exact h0
  refine wW ?_;clear hs hd zl;intro a hs hd zl;refine wp_ret ?_;(repeat first|refine then_ret ?_|refine inBlock_ret ?_);have e1:S.tot=sumP S.V:=htt.out.trans (ht.resolve_left h0);exact end_tmp rfl hd (sl zl 2) ⟨by rw[ht.resolve_left h0],by unfold Vs.summed;rw[← e1];exact hg,GB.refl w g⟩
theorem run_bytesOf{w:World}{A:Option Addr}{c:Nat}{l:List Int}(hf:Fm A l.length c)(hb:Bs w A l):(Extern.Bytes.bytesOf (.slice A l.length c)).run Tryz.prog w=.ok (strOfNums l) w:=by
 rcases hf.arg with⟨rfl,rfl,h0⟩|⟨b,o,rfl⟩
 ·have h0:l=[]:=h0;subst h0;rfl
 ·show(Extern.Bytes.loadBytes ⟨b,o,none⟩ l.length .empty).run Tryz.prog w=_
  rw[Lib.run_loadBytesX]
  ·congr 1
   unfold strOfNums Lib.bytesOf;apply ByteArray.ext;show(#[]:Array UInt8)++_=_
   rw[Array.empty_append]
  ·intro j x hj;obtain⟨hjl,rfl⟩:=List.getElem?_eq_some_iff.1 hj;obtain⟨b',o',e,_,hc⟩:=hb j hjl;injection e with e;injection e with e1 e2;subst e1 e2;rw[List.getD_eq_getElem?_getD,hj]at hc;rw[addr_add];exact hc
theorem cmpB_eq:∀a b:List UInt8,Lib.compareBytes a b=0→a=b
 | [],[],_=>rfl
 | [],_::_,h=>by simp[Lib.compareBytes]at h
 |_::_,[],h=>by simp[Lib.compareBytes]at h
 |x::a,y::b,h=>by
  unfold Lib.compareBytes at h;split at h
  ·cases h
  ·split at h
   ·cases h
   ·rename_i h1 h2;rw[cmpB_eq a b h,UInt8.le_antisymm (UInt8.not_lt.1 h2) (UInt8.not_lt.1 h1)]
theorem c_bCmp(A A':Option Addr)(c c':Nat)(l k:List Int)(w:World)(hf:Fm A l.length c)(hb:Bs w A l)(h8:Bytes l)(hf':Fm A' k.length c')(hb':Bs w A' k)(h8':Bytes k):
  Calls Tryz.prog 87 #[.slice A l.length c,.slice A' k.length c'] w fun e w'=>(∃x,e=.returned (.int .i64 x)∧(x=0→l=k))∧w'=w:=by
 go_enter Tryz.func87,Tryz.ntmps87
 have hrun:(Extern.BytealgCompare.compare #[.slice A l.length c,.slice A' k.length c']).run Tryz.prog w=.ok (.int .i64 (Lib.compareBytes (strOfNums l).data.toList (strOfNums k).data.toList)) w:=by
  change Sem.run Tryz.prog (do pure (goInt (Extern.BytealgCompare.cmp (← Extern.Bytes.bytesOf (.slice A l.length c)) (← Extern.Bytes.bytesOf (.slice A' k.length c'))))) w=_;simp only[Sem.run_bind,Sem.run_pure,Result.andThen,run_bytesOf hf hb,run_bytesOf hf' hb'];rw[Lib.cmp_eq];rfl
 have hx:Lib.compareBytes (strOfNums l).data.toList (strOfNums k).data.toList=0→l=k:=fun h=>by
  have h1:=cmpB_eq _ _ h;have h2:=eqB_str h8 h8';rw[(eqB_iff _ _).2 (ByteArray.ext (Array.ext' h1))]at h2;exact of_decide_eq_true h2.symm
 generalize Lib.compareBytes (strOfNums l).data.toList (strOfNums k).data.toList=x at hrun hx
 go_wp2
 rw[run_callFunc_extern Tryz.func98 (by kernel_rfl) (by kernel_rfl) (by kernel_rfl) (e:=Extern.BytealgCompare.compare) (by kernel_rfl),hrun];simp only[Result.andThen];rw[Oper.upon_value]
 go_wp2
 go_ret
 exact⟨⟨x,rfl,hx⟩,rfl⟩
theorem c_cpp(v u:Vl)(p r:Nat)(w:World)(hv:VlAt w p v)(hu:VlAt w r u)(hq:v.q=0∧u.q=0)(hne:v.ad.l≠u.ad.l):
  Calls Tryz.prog 77 #[.pointer (some ⟨p,0,none⟩),.pointer (some ⟨r,0,none⟩)] w fun e w'=>(e=.returned (.pointer (some ⟨p,0,none⟩))∨e=.returned (.pointer (some ⟨r,0,none⟩)))∧Below w.heap.size w w':=by
 refine en (sz:=49) rfl rfl rfl fun a hs hd zl=>?_;have hB:=bz_refl w
 have c3:w.cell? ⟨p,3,none⟩=some (.int .i64 0):=by rw[← hq.1];exact hv.blk.cell 3
 have d3:w.cell? ⟨r,3,none⟩=some (.int .i64 0):=by rw[← hq.2];exact hu.blk.cell 3
 have c0:w.cell? ⟨p,0,none⟩=some (.slice v.ad.A v.ad.l.length v.ad.c):=hv.blk.cell 0;have d0:w.cell? ⟨r,0,none⟩=some (.slice u.ad.A u.ad.l.length u.ad.c):=hu.blk.cell 0;have lp:=hv.blk.lt;have lr:=hu.blk.lt;refine wW ?_;clear hs hd zl;intro a hs hd zl
 (try change Code.wp _ _ _ _ _);refine fx [(28,_),(29,_),(30,_),(31,_),(32,_),(33,_),(34,_),(35,_),(36,_)] 9 hs hd zl ?_;clear hs hd zl;intro a u hb hs hd zl;replace hB:=bz_then hB hb;(try clear hup);have hup:=bup hB;clear hb
 refine wW ?_;clear hs hd zl;intro a hs hd zl
 (try change Code.wp _ _ _ _ _);refine fx [(39,_),(40,_),(41,_),(42,_),(43,_),(44,_),(45,_),(46,_),(47,_)] 9 hs hd zl ?_;clear hs hd zl;intro a u hb hs hd zl;replace hB:=bz_then hB hb;(try clear hup);have hup:=bup hB;clear hb
 refine wW ?_;clear hs hd zl;intro a hs hd zl
 (try change Code.wp _ _ _ _ _);refine fx [(9,_),(10,_),(11,_),(12,_),(13,_),(14,_),(15,_),(16,_)] 8 hs hd zl ?_;clear hs hd zl;intro a u hb hs hd zl;replace hB:=bz_then hB hb;(try clear hup);have hup:=bup hB;clear hb
 refine tc (c_bCmp _ _ _ _ _ _ u (hv.ad.after hB).fm (hv.ad.after hB).bs hv.ad.b8 (hu.ad.after hB).fm (hu.ad.after hB).bs hu.ad.b8) hs hd zl ?_;rintro _ u ⟨⟨x,rfl,hx⟩,rfl⟩;refine⟨_,rfl,?_⟩;clear hs hd zl;intro a hs hd zl;have hx0:x≠0:=fun h=>hne (hx h)
 by_cases hlt:x<0
 ·have e1:decide (x<0)=true:=decide_eq_true hlt;refine wW ?_;clear hs hd zl;intro a hs hd zl;refine wp_ret ?_;(repeat first|refine then_ret ?_|refine inBlock_ret ?_);exact end_tmp rfl hd (sl zl 4) ⟨.inl rfl,hB⟩
 ·have e1:decide (x<0)=false:=decide_eq_false hlt;have e2:decide (0<x)=true:=decide_eq_true (by omega);refine wW ?_;clear hs hd zl;intro a hs hd zl;refine wp_ret ?_;(repeat first|refine then_ret ?_|refine inBlock_ret ?_);exact end_tmp rfl hd (sl zl 4) ⟨.inr rfl,hB⟩
structure Vin(P:List Nat)(V:List Vl)(A:Option Addr)(w:World):Prop where
 len:P.length=V.length
 rows:RowsAt w A 1 (ptrRows P)
 vl:∀(i p:Nat) (v:Vl),P[i]?=some p→V[i]?=some v→VlAt w p v
theorem Vin.after{P:List Nat}{V:List Vl}{A:Option Addr}{w w':World}(h:Vin P V A w)(hb:Below w.heap.size w w'):Vin P V A w':=⟨h.len,h.rows.after hb,fun i p v hp hv=>(h.vl i p v hp hv).after hb⟩
theorem Vs.in_.vin{S:Vs}{w:World}(h:S.in_ w):Vin S.P S.V S.A w:=⟨h.len,h.rows,h.vl⟩
theorem Vin.get{P:List Nat}{V:List Vl}{A:Option Addr}{u:World}(h:Vin P V A u){k:Nat}(hk:k<P.length):∃p v b o,A=some ⟨b,o,none⟩∧P[k]?=some p∧V[k]?=some v∧VlAt u p v∧b<u.heap.size∧u.cell? ⟨b,o+k,none⟩=some (.pointer (some ⟨p,0,none⟩)):=by
 have hk':k<V.length:=by rw[← h.len];exact hk
 have h1:=List.getElem?_eq_getElem hk;have h2:=List.getElem?_eq_getElem hk';obtain⟨_,b,o,e,hb,hc⟩:=h.rows k _ (ptrRows_get h1);have:=hc 0 _ rfl;exact⟨_,_,b,o,e,h1,h2,h.vl k _ _ h1 h2,hb,by simpa using this⟩
theorem c_cppNil(r:Nat)(w:World):
  Calls Tryz.prog 77 #[.pointer none,.pointer (some ⟨r,0,none⟩)] w fun e w'=>e=.returned (.pointer (some ⟨r,0,none⟩))∧Below w.heap.size w w':=by
 refine en (sz:=49) rfl rfl rfl fun a hs hd zl=>?_;have hB:=bz_refl w
 refine wW ?_;clear hs hd zl;intro a hs hd zl;refine wp_ret ?_;(repeat first|refine then_ret ?_|refine inBlock_ret ?_);exact end_tmp rfl hd (sl zl 4) ⟨rfl,hB⟩
theorem c_find(P:List Nat)(V:List Vl)(A:Option Addr)(c g:Nat)(w:World)(hc:w.cell? ⟨g,0,none⟩=some (.slice A P.length c))(hV:Vin P V A w)(hq:∀v∈V,v.q=0)(hnd:(V.map fun v=>v.ad.l).Nodup)(h0:0<P.length)(hn:P.length≤1000):
  Calls Tryz.prog 68 #[.pointer (some ⟨g,0,none⟩)] w fun e w'=>(∃p∈P,e=.returned (.pointer (some ⟨p,0,none⟩)))∧Below w.heap.size w w':=by
 refine en (sz:=34) rfl rfl rfl fun a hs hd zl=>?_;have hB:=bz_refl w
 refine wW ?_;clear hs hd zl;intro a hs hd zl;refine wp_loop (fun a u=>∃(k:Nat) (pv:Value),SzIs a 34∧DfNil a∧LiveAll [(0,.pointer (some ⟨g,0,none⟩)),(3,pv),(9,.slice A P.length c),(10,.int .i64 ((P.length:Nat):Int)),(11,.int .i64 ((k:Nat):Int))] a∧k≤P.length∧(k=0∧pv=.pointer none∨∃(j p:Nat),j<k∧P[j]?=some p∧pv=.pointer (some ⟨p,0,none⟩))∧Below w.heap.size w u)
  (fun a _=>P.length-(intOf (a.tmps.getD 11 undef)).toNat) ⟨0,_,hs,hd,ks zl,Nat.zero_le _,.inl ⟨rfl,rfl⟩,bz_refl w⟩ ?_
 clear hs hd zl hB;rintro a u ⟨k,pv,hs,hd,zl,hk,hpv,hB⟩;have hup:=bup hB;have hm:(intOf (a.tmps.getD 11 undef)).toNat=k:=by rw[sl zl 11];simp[intOf]
 rw[hm];clear hm hc;by_cases hlt:k<P.length
 ·have e1:decide (k<P.length)=true:=decide_eq_true hlt;have ew:IntKind.i64.wrap ((k:Int)+1)=((k+1:Nat):Int):=by rw[IntWalk.i64_in _ (by omega)];omega
  obtain⟨p,v,b,o,eA,hPk,hVk,hv,hbl,ck⟩:=hV.get hlt;rw[eA]at zl;have HP:=Is.hid hPk;have HV:=Is.hid hVk;have HA:=Is.hid eA;clear eA hPk hVk;refine wW ?_;clear hs hd zl;intro a hs hd zl;clear ck;have cp:w.cell? ⟨p,0,none⟩=some (.slice v.ad.A v.ad.l.length v.ad.c):=hv.blk.cell 0;have lp:=hv.blk.lt;have ew1:IntKind.i64.wrap 1=1:=IntWalk.i64_in _ (by omega);rcases hpv with⟨rfl,rfl⟩|⟨j,r,hj,hr,rfl⟩
  ·(try change Code.wp _ _ _ _ _);refine fx [(15,_),(16,_),(17,_),(18,_),(19,_),(20,_),(21,_),(22,_),(23,_),(24,_),(25,_),(26,_),(27,_)] 13 hs hd zl ?_;clear hs hd zl;intro a u hb hs hd zl;replace hB:=bz_then hB hb;(try clear hup);have hup:=bup hB;clear hb
   refine wW ?_;clear hs hd zl;intro a hs hd zl;refine tc (c_cppNil p u) hs hd zl ?_;rintro _ u ⟨rfl,hb⟩;refine⟨_,rfl,?_⟩;clear hs hd zl;intro a hs hd zl;replace hB:=bz_then hB hb;(try clear hup);have hup:=bup hB;clear hb;refine wW ?_;clear hs hd zl;intro a hs hd zl;rw[← HA.out]at zl;refine⟨⟨1,_,hs,hd,ks zl,hlt,.inr ⟨0,p,Nat.one_pos,HP.out,rfl⟩,hB⟩,?_⟩;rw[sl zl 11];simp[intOf];omega
  ·obtain⟨v1,hv1⟩:∃v1,V[j]?=some v1:=⟨V[j]'(by rw[← hV.len];omega),List.getElem?_eq_getElem _⟩;have hr1:=hV.vl j r v1 hr hv1;have hne:v1.ad.l≠v.ad.l:=fun e=>by
    have h1:(V.map fun v=>v.ad.l)[j]?=(V.map fun v=>v.ad.l)[k]?:=by rw[List.getElem?_map,List.getElem?_map,hv1,HV.out,Option.map_some,Option.map_some,e]
    have:=(List.getElem?_inj (by rw[List.length_map,← hV.len];omega) hnd).1 h1;omega
   have cr:w.cell? ⟨r,0,none⟩=some (.slice v1.ad.A v1.ad.l.length v1.ad.c):=hr1.blk.cell 0;have lr:=hr1.blk.lt;have e3:decide (v.ad.l=v1.ad.l)=false:=decide_eq_false (fun e=>hne e.symm);have HR:=Is.hid hr;have HV1:=Is.hid hv1;have HN:=Is.hid hne;clear hr hv1 hne
   (try change Code.wp _ _ _ _ _);refine fx [(15,_),(16,_),(17,_),(18,_),(19,_),(20,_),(21,_),(22,_),(23,_),(24,_),(25,_),(26,_),(27,_)] 13 hs hd zl ?_ (hstep:=by(simp only[List.map_cons,List.map_nil];(repeat' first|exact trivial|refine And.intro (sP bo) ?_|refine And.intro (sY bo) ?_|refine And.intro sN ?_|refine And.intro (sY (bc (v:=.bool false) (fun u1 hb1=>(c_bEqual v.ad.A v1.ad.A v.ad.c v1.ad.c v.ad.l v1.ad.l u1 (hv.ad.after (bz_then hB hb1)).fm (hv.ad.after (bz_then hB hb1)).bs hv.ad.b8 (hr1.ad.after (bz_then hB hb1)).fm (hr1.ad.after (bz_then hB hb1)).bs hr1.ad.b8).mono (by rintro _ _ ⟨rfl,rfl⟩;exact⟨by rw[e3],Below.refl _ _⟩)))) ?_)));clear hs hd zl;intro a u hb hs hd zl;replace hB:=bz_then hB hb;(try clear hup);have hup:=bup hB;clear hb
   refine wW ?_;clear hs hd zl;intro a hs hd zl;refine tc (c_cpp v1 v r p u (hr1.after hB) (hv.after hB) ⟨hq _ (List.mem_of_getElem? HV1.out),hq _ (List.mem_of_getElem? HV.out)⟩ HN.out) hs hd zl ?_;have key:∀(x:Nat) (jx:Nat) (u':World) (a:Act),jx<k+1→P[jx]?=some x→Below w.heap.size w u'→SzIs a 34→DfNil a→LiveAll [(0,.pointer (some ⟨g,0,none⟩)),(3,.pointer (some ⟨x,0,none⟩)),(9,.slice A P.length c),(10,.int .i64 ((P.length:Nat):Int)),(11,.int .i64 (((k+1:Nat)):Int))] a→
     (∃(k':Nat) (pv:Value),SzIs a 34∧DfNil a∧LiveAll [(0,.pointer (some ⟨g,0,none⟩)),(3,pv),(9,.slice A P.length c),(10,.int .i64 ((P.length:Nat):Int)),(11,.int .i64 ((k':Nat):Int))] a∧k'≤P.length∧(k'=0∧pv=.pointer none∨∃(j p:Nat),j<k'∧P[j]?=some p∧pv=.pointer (some ⟨p,0,none⟩))∧Below w.heap.size w u')∧P.length-(intOf (a.tmps.getD 11 undef)).toNat<P.length-k:=fun x jx u' a h1 h2 h3 hs hd zl=>
    ⟨⟨k+1,_,hs,hd,zl,hlt,.inr ⟨jx,x,h1,h2,rfl⟩,h3⟩,by rw[sl zl 11];simp[intOf];omega⟩
   rintro _ u ⟨he,hb⟩;rcases he with rfl|rfl
   ·refine⟨_,rfl,?_⟩;clear hs hd zl;intro a hs hd zl;replace hB:=bz_then hB hb;(try clear hup);have hup:=bup hB;clear hb;refine wW ?_;clear hs hd zl;intro a hs hd zl;rw[← HA.out]at zl;exact key r j _ _ (by omega) HR.out hB hs hd (ks zl)
   ·refine⟨_,rfl,?_⟩;clear hs hd zl;intro a hs hd zl;replace hB:=bz_then hB hb;(try clear hup);have hup:=bup hB;clear hb;refine wW ?_;clear hs hd zl;intro a hs hd zl;rw[← HA.out]at zl;exact key p k _ _ (by omega) HP.out hB hs hd (ks zl)
 ·obtain rfl:k=P.length:=by omega
  have e1:decide (P.length<P.length)=false:=decide_eq_false (by omega);rcases hpv with⟨h,-⟩|⟨j,p,hj,hp,rfl⟩
  ·omega
  have HP:=Is.hid hp;clear hp;refine wW ?_;clear hs hd zl;intro a hs hd zl;refine wp_exit ?_;(repeat refine then_exit ?_);refine inBlock_exit ?_;refine wW ?_;clear hs hd zl;intro a hs hd zl;refine wp_ret ?_;(repeat first|refine then_ret ?_|refine inBlock_ret ?_);exact end_tmp rfl hd (sl zl 2) ⟨⟨p,List.mem_of_getElem? HP.out,rfl⟩,hB⟩
def vsCells(A:Option Addr)(n c:Nat)(pr:Option Addr)(tot:Int)(same:Bool):Array Value:=#[.slice A n c,.pointer pr,.int .i64 tot,.bool same]
theorem c_vsSize2(A:Option Addr)(n c g:Nat)(w:World)(hc:w.cell? ⟨g,0,none⟩=some (.slice A n c)):
  Calls Tryz.prog 76 #[.pointer (some ⟨g,0,none⟩)] w fun e w'=>e=.returned (.int .i64 (n:Int))∧w'=w:=by
 refine en (sz:=8) rfl rfl rfl fun a hs hd zl=>?_;have hB:=bz_refl w
 refine wW ?_;clear hs hd zl;intro a hs hd zl;refine wp_ret ?_;(repeat first|refine then_ret ?_|refine inBlock_ret ?_);exact end_tmp rfl hd (sl zl 2) ⟨rfl,rfl⟩
theorem meth_kType2(k a:HSl)(w:World):(method 386 159 (.agg (keyV k a)) "Type").run Tryz.prog w=.ok (194,.agg (keyV k a)) w:=by kernel_rfl
theorem meth_kNilT2(k a:HSl)(w:World):(nilAhead 386 159 (.agg (keyV k a)) "Type").run Tryz.prog w=.ok (some false) w:=by kernel_rfl
def plainS:ByteArray:=⟨#[112,108,97,105,110]⟩
theorem nil_e:(ByteArray.mk #[]).toList.isEmpty=true:=by rw[ByteArray.toList_eq];rfl
theorem plain_e:plainS.toList.isEmpty=false:=by rw[ByteArray.toList_eq];rfl
theorem c_allk(P:List Nat)(V:List Vl)(A:Option Addr)(c g:Nat)(pr:Option Addr)(tot:Int)(same:Bool)(w:World)(hg:Blk w g 157 (vsCells A P.length c pr tot same))(hV:Vin P V A w)(h0:0<P.length)(hn:P.length≤1000):
  Calls Tryz.prog 67 #[.pointer (some ⟨g,0,none⟩)] w fun e w'=>e=.returned (.tuple #[])∧Blk w' g 157 (vsCells A P.length c pr tot true)∧GB w w' g:=by
 refine en (sz:=46) rfl rfl rfl fun a hs hd zl=>?_;have hB:=bz_refl w
 have c0:w.cell? ⟨g,0,none⟩=some (.slice A P.length c):=hg.cell 0;have e0:((P.length:Int) == 0)=false:=by rw[beq_eq_false_iff_ne];omega
 refine wW ?_;clear hs hd zl;intro a hs hd zl;refine tc (c_vsSize2 A P.length c g w c0) hs hd zl ?_;rintro _ w ⟨rfl,rfl⟩;refine⟨_,rfl,?_⟩;clear hs hd zl;intro a hs hd zl;refine wW ?_;clear hs hd zl;intro a hs hd zl;clear c0 e0;refine wp_loop (fun a u=>∃(k:Nat) (s:ByteArray),SzIs a 46∧DfNil a∧LiveAll [(0,.pointer (some ⟨g,0,none⟩)),(2,.string s),(14,.slice A P.length c),(15,.int .i64 ((P.length:Nat):Int)),(16,.int .i64 ((k:Nat):Int))] a∧k≤P.length∧(s=⟨#[]⟩∨s=plainS)∧Below w.heap.size w u)
  (fun a _=>P.length-(intOf (a.tmps.getD 16 undef)).toNat) ⟨0,_,hs,hd,ks zl,Nat.zero_le _,.inl rfl,bz_refl w⟩ ?_
 clear hs hd zl hB;rintro a u ⟨k,s,hs,hd,zl,hk,hsv,hB⟩;have hup:=bup hB;have hm:(intOf (a.tmps.getD 16 undef)).toNat=k:=by rw[sl zl 16];simp[intOf]
 rw[hm];clear hm;by_cases hlt:k<P.length
 ·have e1:decide (k<P.length)=true:=decide_eq_true hlt;have ew:IntKind.i64.wrap ((k:Int)+1)=((k+1:Nat):Int):=by rw[IntWalk.i64_in _ (by omega)];omega
  obtain⟨p,v,b,o,eA,hPk,hVk,hv,hbl,ck⟩:=hV.get hlt;rw[eA]at zl;have HA:=Is.hid eA;clear eA hPk hVk;refine wW ?_;clear hs hd zl;intro a hs hd zl;clear ck;have cp:w.cell? ⟨p,1,none⟩=some (.iface 159 (.agg (keyV v.ky v.ad))):=hv.blk.cell 1;have lp:=hv.blk.lt;have m1:=meth_kType2 v.ky v.ad;have m2:=meth_kNilT2 v.ky v.ad;have fin:∀(u:World) (a:Act),Below w.heap.size w u→SzIs a 46→DfNil a→LiveAll [(0,.pointer (some ⟨g,0,none⟩)),(2,.string plainS),(14,.slice A P.length c),(15,.int .i64 ((P.length:Nat):Int)),(16,.int .i64 ((k+1:Nat):Int))] a→
    (∃(k:Nat) (s:ByteArray),SzIs a 46∧DfNil a∧LiveAll [(0,.pointer (some ⟨g,0,none⟩)),(2,.string s),(14,.slice A P.length c),(15,.int .i64 ((P.length:Nat):Int)),(16,.int .i64 ((k:Nat):Int))] a∧k≤P.length∧(s=⟨#[]⟩∨s=plainS)∧Below w.heap.size w u)∧P.length-(intOf (a.tmps.getD 16 undef)).toNat<P.length-k:=
   fun u a hB hs hd zl=>⟨⟨k+1,_,hs,hd,zl,hlt,.inr rfl,hB⟩,by rw[sl zl 16];simp[intOf];omega⟩
  have kT:=fun u=>show Calls Tryz.prog 194 #[.agg (keyV v.ky v.ad)] u fun e w'=>e=.returned (.string plainS)∧Below u.heap.size u w' from c_kType v.ky v.ad u
  rcases hsv with rfl|rfl
  ·(repeat first|refine wp_seq ?_|refine wp_block ?_|refine wp_region_list ?_|(refine tx hs hd zl ?_;clear hs hd zl;intro a hs hd zl)|(refine tn hs hd zl ?_;clear hs hd zl;intro a hs hd zl)|refine ct zl ?_|refine cf zl ?_|refine wp_skip ?_)
   rw[nil_e]at zl;refine wW ?_;clear hs hd zl;intro a hs hd zl;refine tc (kT u) hs hd zl ?_;rintro _ u ⟨rfl,hb⟩;refine⟨_,rfl,?_⟩;clear hs hd zl;intro a hs hd zl;replace hB:=bz_then hB hb;(try clear hup);have hup:=bup hB;clear hb;refine wW ?_;clear hs hd zl;intro a hs hd zl;refine tc (kT u) hs hd zl ?_;rintro _ u ⟨rfl,hb⟩;refine⟨_,rfl,?_⟩;clear hs hd zl;intro a hs hd zl;replace hB:=bz_then hB hb;(try clear hup);have hup:=bup hB;clear hb;refine wW ?_;clear hs hd zl;intro a hs hd zl;rw[← HA.out]at zl;exact fin u a hB hs hd (ks zl)
  ·(repeat first|refine wp_seq ?_|refine wp_block ?_|refine wp_region_list ?_|(refine tx hs hd zl ?_;clear hs hd zl;intro a hs hd zl)|(refine tn hs hd zl ?_;clear hs hd zl;intro a hs hd zl)|refine ct zl ?_|refine cf zl ?_|refine wp_skip ?_)
   rw[plain_e]at zl;refine wW ?_;clear hs hd zl;intro a hs hd zl;refine tc (kT u) hs hd zl ?_;rintro _ u ⟨rfl,hb⟩;refine⟨_,rfl,?_⟩;clear hs hd zl;intro a hs hd zl;replace hB:=bz_then hB hb;(try clear hup);have hup:=bup hB;clear hb;refine wW ?_;clear hs hd zl;intro a hs hd zl;rw[← HA.out]at zl;exact fin u a hB hs hd (ks zl)
 ·obtain rfl:k=P.length:=by omega
  have e1:decide (P.length<P.length)=false:=decide_eq_false (by omega);refine wW ?_;clear hs hd zl;intro a hs hd zl;refine wp_exit ?_;(repeat refine then_exit ?_);refine inBlock_exit ?_;have c3:=(hg.after hB).cell 3;have f3:=(hg.after hB).free 3;refine wW ?_;clear hs hd zl;intro a hs hd zl;refine ts hs hd zl ?_;clear hs hd zl;intro a hs hd zl;exact end_none rfl hd ⟨rfl,(hg.after hB).set_ 3 _,((GB.refl w g).after hB).set 3 _⟩
def sinkF(fz:Nat)(ops:Array Oper)(n:Nat):Bool:=(List.range n).all fun i=>i == fz || (List.range (n+1)).any fun j=>decide (i<j) && Region.waitsFor .any ops j i
section
variable{P:Program}{ops:Array Oper}{Q:Exit→Act→World→Prop}
theorem tail_waitsF{fz n:Nat}{listed:Array Bool}(hs:sinkF fz ops n=true)(hc:Region.chainB .any ops n=true)(hn:n<ops.size)(inv:HeadInv .any ops n listed)(hlf:listed.getD fz false=true):
  ∀(d i:Nat),n-i=d→i<n→listed.getD i true=false→∀t,n≤t→t∉Region.ready .any ops listed:=by
 intro d;induction d using Nat.strongRecOn with
 |_ d ih=>
  intro i hd hi hun t ht hr;obtain⟨_,ot,hot,hall⟩:=mem_ready.1 hr;have htlt:t<ops.size:=(Array.getElem?_eq_some_iff.1 hot).1;by_cases htn:t=n
  ·subst htn;have h1:=List.all_eq_true.1 hs i (List.mem_range.2 hi);rw[Bool.or_eq_true]at h1;rcases h1 with h1|h1
   ·obtain rfl:i=fz:=by simpa using h1
    rw[getD_both hun]at hlf
    cases hlf
   obtain⟨j,hj,hj2⟩:=List.any_eq_true.1 h1;simp only[Bool.and_eq_true,decide_eq_true_eq]at hj2;obtain⟨oj,hoj,e,he,hb,hon⟩:=Region.waitsFor_spec hj2.2;have hjle:j≤t:=by have:=List.mem_range.1 hj;omega
   by_cases hjt:j=t
   ·subst hjt;have:oj=ot:=Option.some.inj (hoj.symm.trans hot);subst this;have h2:=hall e he hb;rw[hon,getD_both hun]at h2
    cases h2
   ·cases hl:listed.getD j false with
    |true=>
     have h2:=inv.closed j oj hoj hl e he hb;rw[hon,getD_both hun]at h2
     cases h2
    |false=>
     have hjs:j<listed.size:=by rw[inv.size];omega
     exact ih (t-j) (by omega) j rfl (by omega) (getD_in hjs hl) t (Nat.le_refl _) hr
  ·have h1:=List.all_eq_true.1 hc t (List.mem_range.2 htlt);simp only[Bool.or_eq_true,decide_eq_true_eq]at h1;rcases h1 with h1|h1
   ·omega
   ·obtain⟨o',ho',e,he,hb,hon⟩:=Region.waitsFor_spec h1;have:o'=ot:=Option.some.inj (ho'.symm.trans hot);subst this;have h2:=hall e he hb;rw[hon]at h2;have h3:=inv.tail (t-1) (by omega) (by omega);rw[getD_both h3]at h2
    cases h2
theorem wpAny_flow2f(fz:Nat)(its:List FItem)(m:Nat)(a0:Act)(W:World)(hck:flowOk2 ops m (its.map FItem.reads)=true)(hs:sinkF fz ops m=true)(hc:Region.chainB .any ops m=true)
  (hq:Region.seqB .any ops (ops.size-m) m (frontArr ops m)=true)
  (hstep:∀(i:Nat) (o:Oper) (it:FItem),i<m→ops[i]?=some o→its[i]?=some it→∀a w,Below W.heap.size W w→Same2 ops m a0 a→(∀j∈deps o,∀(jt:FItem),its[j]?=some jt→jt.holds a w)→
   ∀K:Act→World→Prop,(∀v w',Below w.heap.size w w'→it.holds (a.put o.dst v) w'→K (a.put o.dst v) w')→if Region.wanted o (yielded ops a.tmps)=true then o.wp P a w K Q else K (a.put o.dst undef) w)
  (hend:∀a w,Below W.heap.size W w→Same2 ops m a0 a→(∀(i:Nat) (it:FItem),its[i]?=some it→it.holds a w)→wpList P ops Q (ops.toList.drop m) a w):
  ∀(fuel:Nat) (listed:Array Bool) (a:Act) (w:World),listed.size=ops.size→(List.range ops.size).countP (fun i=>!listed.getD i true)=fuel→(∀t,m≤t→t<ops.size→listed.getD t true=false)→Below W.heap.size W w→Same2 ops m a0 a→listed.getD fz false=true→
   (∀(i:Nat) (o:Oper) (it:FItem),ops[i]?=some o→its[i]?=some it→listed.getD i false=true→(∀j∈deps o,listed.getD j false=true)∧it.holds a w)→wpAny P .any ops Q fuel listed a w:=by
 obtain⟨hmn,hlen⟩:=flow2_lt hck;rw[List.length_map]at hlen;have hfin:∀(fuel:Nat) (listed:Array Bool) (a:Act) (w:World),listed.size=ops.size→(List.range ops.size).countP (fun i=>!listed.getD i true)=fuel→(∀t,m≤t→t<ops.size→listed.getD t true=false)→(∀i,i<m→listed.getD i false=true)→Below W.heap.size W w→Same2 ops m a0 a→
   (∀(i:Nat) (o:Oper) (it:FItem),ops[i]?=some o→its[i]?=some it→listed.getD i false=true→(∀j∈deps o,listed.getD j false=true)∧it.holds a w)→wpAny P .any ops Q fuel listed a w:=by
  intro fuel listed a w hls hcn htl hfr hb hsm hinv;have hL:listed=frontArr ops m:=by
   apply Array.ext
   ·simp[frontArr,hls]
   ·intro i h1 h2;simp only[frontArr,List.getElem_toArray,List.getElem_map,List.getElem_range];by_cases him:i<m
    ·have:=hfr i him;rw[Array.getD_eq_getD_getElem?,Array.getElem?_eq_getElem h1]at this;simpa [him]using this
    ·have:=htl i (by omega) (by omega);rw[Array.getD_eq_getD_getElem?,Array.getElem?_eq_getElem h1]at this;simpa [him]using this
  have hcnt:fuel=(ops.toList.drop m).length:=by
   rw[← hcn,List.length_drop,Array.length_toList];have key:∀n,m≤n→n≤ops.size→(List.range n).countP (fun i=>!listed.getD i true)=n-m:=by
    intro n;induction n with
    |zero=>intro h1 _;simp
    |succ n ih=>
     intro h1 h2;rw[List.range_succ,List.countP_append];rcases Nat.lt_or_ge n m with h|h
     ·obtain rfl:m=n+1:=by omega
      have h0:(List.range n).countP (fun i=>!listed.getD i true)=0:=by
       rw[List.countP_eq_zero];intro i hi;have hi':=List.mem_range.1 hi;have:=hfr i (by omega);have hsz:i<listed.size:=by omega
       simp[Array.getD_eq_getD_getElem?,hsz]at this⊢;exact this
      have h3:=hfr n (by omega);have hsz:n<listed.size:=by omega
      rw[h0];simp[Array.getD_eq_getD_getElem?,hsz]at h3⊢;exact h3
     ·have h3:=htl n h (by omega);have h4:[n].countP (fun i=>!listed.getD i true)=1:=by rw[List.countP_singleton,h3];rfl
      rw[ih h (by omega),h4];omega
   exact key ops.size (by omega) (Nat.le_refl _)
  subst hL;rw[hcnt];refine wpAny_of_seq (ops.toList.drop m) m _ a w (fun j=>by simp[List.getElem?_drop]) (by rw[List.length_drop,Array.length_toList];exact hq) ?_;refine hend a w hb hsm fun(i:Nat) (it:FItem) hit=>?_
  have hi:i<m:=by
   have:=(List.getElem?_eq_some_iff.1 hit).1;omega
  exact(hinv i _ it (Array.getElem?_eq_getElem (by omega)) hit (hfr i hi)).2
 intro fuel;induction fuel with
 |zero=>
  intro listed a w hls hcn htl hb hsm hlf hinv;refine hfin 0 listed a w hls hcn htl (fun i hi=>?_) hb hsm hinv;have:=List.countP_eq_zero.1 hcn i (List.mem_range.2 (by omega));have hsz:i<listed.size:=by omega
  simp[Array.getD_eq_getD_getElem?,hsz]at this⊢;exact this
 |succ fuel ih=>
  intro listed a w hls hcn htl hb hsm hlf hinv;by_cases hall:∀i,i<m→listed.getD i false=true
  ·exact hfin _ listed a w hls hcn htl hall hb hsm hinv
  have hex:∃i,i<m∧listed.getD i false=false∧∀j,j<i→listed.getD j false=true:=by
   have hne:∃i,i<m∧listed.getD i false=false:=by
    refine Classical.byContradiction fun h=>hall fun i hi=>?_
    cases hv:listed.getD i false with
    |true=>rfl
    |false=>exact absurd ⟨i,hi,hv⟩ h
   obtain⟨i,hi,hv⟩:=hne;induction i using Nat.strongRecOn with
   |_ i ihi=>
    by_cases hj:∃j,j<i∧listed.getD j false=false
    ·obtain⟨j,hji,hjv⟩:=hj;exact ihi j hji (by omega) hjv
    ·refine⟨i,hi,hv,fun j hji=>?_⟩
     cases hjv:listed.getD j false with
     |true=>rfl
     |false=>exact absurd ⟨j,hji,hjv⟩ hj
  obtain⟨i0,hi0,hv0,hlow⟩:=hex;have hun0:listed.getD i0 true=false:=by
   have hsz:i0<listed.size:=by omega
   simp[Array.getD_eq_getD_getElem?,hsz]at hv0⊢;exact hv0
  have hready0:i0∈Region.ready .any ops listed:=by
   unfold Region.ready;rw[List.mem_filter];refine⟨List.mem_range.2 (by omega),?_⟩;have ho:ops[i0]?=some ops[i0]:=Array.getElem?_eq_getElem (by omega);rw[hun0,ho];simp only[Bool.not_false,Bool.true_and,Option.map_some,Option.getD_some,Array.all_eq_true'];intro e he;by_cases hbd:Region.binds .any e=true
   ·have hlt:=flow2_deps hck hi0 ho _ (dep_mem he hbd);simp[hbd,hlow e.on hlt]
   ·simp at hbd;simp[hbd]
  have hHI:HeadInv .any ops m listed:=by
   refine⟨hls,fun j oj hj hl e he hb'=>?_,htl⟩;have hjm:j<m:=by
    rcases Nat.lt_or_ge j m with h|h
    ·exact h
    ·have hjn:j<ops.size:=(Array.getElem?_eq_some_iff.1 hj).1;have:=getD_both (htl j h hjn);rw[this]at hl
     cases hl
   exact(hinv j oj _ hj (List.getElem?_eq_getElem (by omega)) hl).1 _ (dep_mem he hb')
  refine⟨fun hr=>absurd hready0 (by rw[hr];simp),fun i hi=>?_⟩;have him:i<m:=by
   rcases Nat.lt_or_ge i m with h|h
   ·exact h
   ·exact absurd hi (tail_waitsF hs hc hmn hHI hlf _ i0 rfl hi0 hun0 i h)
  unfold Region.ready at hi;rw[List.mem_filter]at hi;obtain⟨hir,hi2⟩:=hi;have hin:i<ops.size:=List.mem_range.1 hir;obtain⟨o,ho⟩:∃o,ops[i]?=some o:=⟨ops[i],Array.getElem?_eq_getElem hin⟩;obtain⟨it,hit⟩:∃it,its[i]?=some it:=⟨its[i]'(by omega),List.getElem?_eq_getElem (by omega)⟩;rw[ho]at hi2;simp only[Bool.and_eq_true,Option.map_some,Option.getD_some,Array.all_eq_true']at hi2;obtain⟨hun,hed⟩:=hi2;have hunl:listed.getD i true=false:=by simpa using hun
  have hdl:∀j∈deps o,listed.getD j false=true:=by
   intro j hj;obtain⟨e,he,hb',rfl⟩:=dep_edge hj;have:=hed e he;simpa [hb']using this
  refine wpOp_step ho fun K' hK=>?_
  refine hstep i o it him ho hit a w hb hsm (fun j hj jt hjt=>?_) K' (fun v w' hbw hitw=>hK _ _ ?_)
  ·have hjn:j<ops.size:=Nat.lt_trans (flow2_deps hck him ho j hj) hin;exact(hinv j ops[j] jt (Array.getElem?_eq_getElem hjn) hjt (hdl j hj)).2
  ·have hset:∀k,(listed.setIfInBounds i true).getD k false=true→k=i∨listed.getD k false=true:=by
    intro k hk;by_cases hki:k=i
    ·exact .inl hki
    ·right
     simpa [Array.getD_eq_getD_getElem?,Array.getElem?_setIfInBounds_ne (Ne.symm hki)]using hk
   have hkeep:∀k,listed.getD k false=true→(listed.setIfInBounds i true).getD k false=true:=by
    intro k hk;by_cases hki:k=i
    ·subst hki;simp[Array.getD_eq_getD_getElem?,show k<listed.size by omega]
    ·simpa [Array.getD_eq_getD_getElem?,Array.getElem?_setIfInBounds_ne (Ne.symm hki)]using hk
   have hself:(listed.setIfInBounds i true).getD i false=true:=by simp[Array.getD_eq_getD_getElem?,show i<listed.size by omega]
   refine ih _ _ _ (by simpa using hls) ?_ (fun t ht htn=>?_) (hb.trans (hbw.mono hb.size)) (hsm.put him ho v) (hkeep _ hlf) ?_
   ·have hcc:(List.range ops.size).countP (fun k=>!listed.getD k true)=(List.range ops.size).countP (fun k=>!(listed.setIfInBounds i true).getD k true)+1:=by
     have key:∀l:List Nat,l.Nodup→l.countP (fun k=>!listed.getD k true)=l.countP (fun k=>!(listed.setIfInBounds i true).getD k true)+(if i∈l then 1 else 0):=by
      intro l;induction l with
      |nil=>intro _;simp
      |cons y l ihl=>
       intro hnd;rw[List.nodup_cons]at hnd;rw[List.countP_cons,List.countP_cons,ihl hnd.2];by_cases hyi:y=i
       ·subst hyi;have h2:(listed.setIfInBounds y true).getD y true=true:=by simp[Array.getD_eq_getD_getElem?,show y<listed.size by omega]
        simp[hunl,h2,hnd.1]
       ·have h2:(listed.setIfInBounds i true).getD y true=listed.getD y true:=by simp[Array.getD_eq_getD_getElem?,Array.getElem?_setIfInBounds_ne (Ne.symm hyi)]
        rw[h2];have:(i∈y::l)↔i∈l:=by simp[Ne.symm hyi]
        simp only[this];split <;> omega
     rw[key _ List.nodup_range,if_pos hir]
    omega
   ·have hti:t≠i:=by omega
    have:=htl t ht htn;simpa [Array.getD_eq_getD_getElem?,Array.getElem?_setIfInBounds_ne (Ne.symm hti)]using this
   ·intro k ok kt hok hkt hkl;rcases hset k hkl with rfl|hkl'
    ·rw[ho]at hok;rw[hit]at hkt;injection hok with hok;injection hkt with hkt;subst hok hkt;exact⟨fun j hj=>hkeep j (hdl j hj),hitw⟩
    ·obtain⟨hkd,hkh⟩:=hinv k ok kt hok hkt hkl';have hkm:k<m:=by
      have:=(List.getElem?_eq_some_iff.1 hkt).1;omega
     refine⟨fun j hj=>hkeep j (hkd j hj),?_⟩;have hne:∀t∈kt.reads,o.dst≠some t:=by
      intro t ht hdt;have htr:t∈(((its.map FItem.reads)[k]?).getD []):=by simp[List.getElem?_map,hkt,ht]
      rcases flow2_reads hck hkm him hok ho htr hdt with h|h
      ·subst h;have:listed.getD i true=true:=by
        simp only[Array.getD_eq_getD_getElem?]at hkl'⊢;rw[Array.getElem?_eq_getElem (show i<listed.size by omega)]at hkl'⊢;simpa using hkl'
       rw[hunl]at this
       cases this
      ·have:=hkd i h;have h2:listed.getD i true=true:=by
        simp only[Array.getD_eq_getD_getElem?]at this⊢;rw[Array.getElem?_eq_getElem (show i<listed.size by omega)]at this⊢;simpa using this
       rw[hunl]at h2
       cases h2
     have hmap:(kt.reads.map fun t=>(a.put o.dst v).tmps.getD t undef)=kt.reads.map fun t=>a.tmps.getD t undef:=
      List.map_congr_left fun t ht=>put_getD _ _ _ _ (hne t ht)
     unfold FItem.holds at hkh⊢;rw[hmap];exact kt.keeps _ _ _ hbw hkh
def drawOkF(fz:Nat)(ops:Array Oper)(m:Nat):Bool:=sinkF fz ops m && Region.chainB .any ops m && Region.seqB .any ops (ops.size-m) m (frontArr ops m)
def noSel(ops:Array Oper):Bool:=ops.toList.all fun o=>match o.op with
 | .select _ _=>false
 |_=>true
def freeB(fz:Nat)(ops:Array Oper)(of_:Oper):Bool:=(List.range ops.size).all fun j=>j == fz || match ops[j]? with
 |some oj=>(deps oj).contains fz || of_.apart ops oj
 |none=>true
theorem fl2f{id:Nat}{F:List (Nat×Value)}(fz:Nat)(its:List FItem)(m:Nat){a0:Act}{W:World}{sz s df:Nat}{vf:Value}{of_:Oper}(hsz:SzIs a0 sz)(hdf:DfNil a0)(hl:LiveAll F a0)(hstep:StepsOk P ops Q F sz W its ops.toList its)
  (hend:∀a w,Below W.heap.size W w→SzIs a sz→DfNil a→LiveAll F a→HoldAll a w its→wpList P ops Q (ops.toList.drop m) a w)
  (hof:ops[fz]?=some of_:=by exact rfl)(hop:of_.op=.move (.tmp s):=by exact rfl)(hdst:of_.dst=some df:=by exact rfl)(hgu:of_.guard=none:=by exact rfl)(haf:of_.after=#[]:=by exact rfl)(hfm:fz<m:=by decide)
  (hit:its[fz]?=some (FItem.eq df vf):=by exact rfl)(hF:F.lookup s=some vf:=by exact rfl)(hdz:df<sz:=by decide)
  (hQ:∀c a w,Q (.panic c) (a.put (some df) vf) w→Q (.panic c) a w:=by(intro _ _ _ h;exact h))
  (hfr:freeB fz ops of_=true:=by kernel_rfl)(hns:noSel ops=true:=by kernel_rfl)
  (hm:P.follows .mixedOrders=true:=by kernel_rfl)(hck:flowOk2 ops m (its.map FItem.reads)=true:=by kernel_rfl)(hdr:drawOkF fz ops m=true:=by kernel_rfl)
  (hlk:liveOk2 ops m (F.map (·.1))=true:=by kernel_rfl):(Code.region id ops true).wp P Q a0 W:=by
 simp only[drawOkF,Bool.and_eq_true]at hdr;have hmn:=(flow2_lt hck).1;have hsel:∀(j:Nat) (o:Oper) cs b,ops[j]?=some o→o.op≠.select cs b:=fun j o cs b ho e=>by
  have:=List.all_eq_true.1 hns o (by rw[Array.mem_toList_iff];exact Array.mem_of_getElem? ho);rw[e]at this
  cases this
 have hy:Yields P ops of_ vf a0:=.inl ⟨by simp[Region.wanted,hgu],fun w=>by
  have:=sl hl s hF;unfold execOp;rw[hop];show Result.ok (Next.value (a0.eval (.tmp s))) w=_
  rw[show a0.eval (.tmp s)=vf from this]⟩
 obtain⟨N,hN⟩:∃N,ops.size=N+1:=⟨ops.size-1,by omega⟩;refine wp_region_any hm ?_;rw[hN];have hfl:fz<ops.size:=by omega
 refine wpAny_first hof hsel (fun c a w h=>hQ c a w (by rw[hdst]at h;exact h)) N _ a0 _ (fun j oj hoj hji _ hde=>?_) ?_ hy ?_
 ·have h1:=List.all_eq_true.1 hfr j (List.mem_range.2 (Array.getElem?_eq_some_iff.1 hoj).1);rw[hoj,Bool.or_eq_true,Bool.or_eq_true]at h1;rcases h1 with h1|h1|h1
  ·exact absurd (by simpa using h1) hji
  ·obtain⟨e,he,hb,hon⟩:=dep_edge (List.contains_iff_mem.1 h1);exact absurd hon (hde e he hb)
  ·exact h1
 ·rw[mem_ready];exact⟨by simp[Array.getD_eq_getD_getElem?,show fz<N+1 by omega],of_,hof,fun e he=>by rw[haf]at he;simp at he⟩
 ·have hsm:Same2 ops m a0 (a0.put of_.dst vf):=Same2.put ⟨rfl,rfl,fun _ _=>rfl⟩ hfm hof vf;have hst:∀(i:Nat) (o:Oper) (it:FItem),i<m→ops[i]?=some o→its[i]?=some it→∀a w,Below W.heap.size W w→Same2 ops m a0 a→(∀j∈deps o,∀(jt:FItem),its[j]?=some jt→jt.holds a w)→
    ∀K:Act→World→Prop,(∀v w',Below w.heap.size w w'→it.holds (a.put o.dst v) w'→K (a.put o.dst v) w')→if Region.wanted o (yielded ops a.tmps)=true then o.wp P a w K Q else K (a.put o.dst undef) w:=
   fun i o it _ ho hit a w hb hs hd K hK=>StepsOk.get _ _ hstep i o it (by simpa using ho) hit a w hb ⟨hs.1.trans hsz.out⟩ (live_of_same2 hs F hlk hl) (depsHold_of _ hd) K hK
  have hen:∀a w,Below W.heap.size W w→Same2 ops m a0 a→(∀(i:Nat) (it:FItem),its[i]?=some it→it.holds a w)→wpList P ops Q (ops.toList.drop m) a w:=
   fun a w hb hs hh=>hend a w hb ⟨hs.1.trans hsz.out⟩ ⟨hs.2.1.trans hdf.out⟩ (live_of_same2 hs F hlk hl) (holdAll_of its hh)
  refine wpAny_flow2f fz its m a0 W hck hdr.1.1 hdr.1.2 hdr.2 hst hen N _ _ _ (by simp[hN]) ?_ (fun t ht htn=>?_) (Below.refl _ _).drew hsm ?_ (fun i o it ho hit' hli=>?_)
  ·have key:∀n,fz<n→n≤N+1→(List.range n).countP (fun i=>!((Array.replicate (N+1) false).setIfInBounds fz true).getD i true)=n-1:=by
    intro n;induction n with
    |zero=>intro h;omega
    |succ n ih=>
     intro h1 h2;rw[List.range_succ,List.countP_append,List.countP_singleton];by_cases hn:fz=n
     ·subst hn;have hz:∀k,k≤fz→(List.range k).countP (fun i=>!((Array.replicate (N+1) false).setIfInBounds fz true).getD i true)=k:=by
       intro k;induction k with
       |zero=>intro _;rfl
       |succ k ihk=>
        intro hk;rw[List.range_succ,List.countP_append,List.countP_singleton,ihk (by omega)];have:((Array.replicate (N+1) false).setIfInBounds fz true).getD k true=false:=by
         rw[Array.getD_eq_getD_getElem?,Array.getElem?_setIfInBounds_ne (by omega)];simp[show k<N+1 by omega]
        rw[this];rfl
      rw[hz fz (Nat.le_refl _)];have:((Array.replicate (N+1) false).setIfInBounds fz true).getD fz true=true:=by simp[Array.getD_eq_getD_getElem?,show fz<N+1 by omega]
      rw[this];simp
     ·have:((Array.replicate (N+1) false).setIfInBounds fz true).getD n true=false:=by
       rw[Array.getD_eq_getD_getElem?,Array.getElem?_setIfInBounds_ne hn];simp[show n<N+1 by omega]
      rw[ih (by omega) (by omega),this];simp;omega
   rw[hN];exact key (N+1) (by omega) (Nat.le_refl _)
  ·rw[Array.getD_eq_getD_getElem?,Array.getElem?_setIfInBounds_ne (by omega)];simp[show t<N+1 by omega]
  ·simp[Array.getD_eq_getD_getElem?,show fz<N+1 by omega]
  ·by_cases hif:fz=i
   ·subst hif;rw[hof]at ho;injection ho with ho;subst ho;rw[hit]at hit';injection hit' with hit';subst hit';exact⟨fun j hj=>by unfold deps at hj;rw[haf]at hj;simp at hj,by rw[hdst];exact eq_put hsz hdz⟩
   ·rw[Array.getD_eq_getD_getElem?,Array.getElem?_setIfInBounds_ne hif]at hli;have hi:i<ops.size:=(Array.getElem?_eq_some_iff.1 ho).1;simp[show i<N+1 by omega]at hli
def itS:(Nat×Value)⊕FItem→FItem
 | .inl p=>FItem.eq p.1 p.2
 | .inr it=>it
def lfS:List ((Nat×Value)⊕FItem)→List (Nat×Value)
 | []=>[]
 | .inl p::G=>p::lfS G
 | .inr _::G=>lfS G
def rtS:List ((Nat×Value)⊕FItem)→List FItem
 | []=>[]
 | .inl _::G=>rtS G
 | .inr it::G=>it::rtS G
theorem hAllS:∀(G:List ((Nat×Value)⊕FItem)) {a:Act} {w:World},HoldAll a w (G.map itS)→∀F,LiveAll F a→LiveAll (lfS G++F) a∧HoldAll a w (rtS G)
 | [],_,_,_,_,h=>⟨h,trivial⟩
 | .inl _::G,_,_,h,F,hl=>⟨⟨FItem.eq_holds.1 h.1,(hAllS G h.2 F hl).1⟩,(hAllS G h.2 F hl).2⟩
 | .inr _::G,_,_,h,F,hl=>⟨(hAllS G h.2 F hl).1,h.1,(hAllS G h.2 F hl).2⟩
theorem fxf{id:Nat}{F H:List (Nat×Value)}{R:List FItem}(fz:Nat)(G:List ((Nat×Value)⊕FItem))(m:Nat){a0:Act}{W:World}{sz s df:Nat}{vf:Value}{of_:Oper}(hsz:SzIs a0 sz)(hdf:DfNil a0)(hl:LiveAll F a0)
  (hstep:StepsOk P ops Q F sz W (G.map itS) ops.toList (G.map itS))
  (hend:∀a w,Below W.heap.size W w→SzIs a sz→DfNil a→LiveAll H a→HoldAll a w R→wpList P ops Q (ops.toList.drop m) a w)
  (hG:lfS G++F=H:=by simp only[lfS,List.cons_append,List.nil_append];rfl)(hR:rtS G=R:=by simp only[rtS];rfl)
  (hof:ops[fz]?=some of_:=by exact rfl)(hop:of_.op=.move (.tmp s):=by exact rfl)(hdst:of_.dst=some df:=by exact rfl)(hgu:of_.guard=none:=by exact rfl)(haf:of_.after=#[]:=by exact rfl)(hfm:fz<m:=by decide)
  (hit:(G.map itS)[fz]?=some (FItem.eq df vf):=by exact rfl)(hF:F.lookup s=some vf:=by exact rfl)(hdz:df<sz:=by decide)
  (hQ:∀c a w,Q (.panic c) (a.put (some df) vf) w→Q (.panic c) a w:=by(intro _ _ _ h;exact h))
  (hfr:freeB fz ops of_=true:=by kernel_rfl)(hns:noSel ops=true:=by kernel_rfl)
  (hm:P.follows .mixedOrders=true:=by kernel_rfl)(hck:flowOk2 ops m ((G.map itS).map FItem.reads)=true:=by kernel_rfl)(hdr:drawOkF fz ops m=true:=by kernel_rfl)
  (hlk:liveOk2 ops m (F.map (·.1))=true:=by kernel_rfl):(Code.region id ops true).wp P Q a0 W:=by
 subst hG hR;exact fl2f fz _ m hsz hdf hl hstep (fun a w hb hs hd hh hl=>hend a w hb hs hd (hAllS G hl F hh).1 (hAllS G hl F hh).2) hof hop hdst hgu haf hfm hit hF hdz hQ hfr hns hm hck hdr hlk
theorem ba{F:List (Nat×Value)}{sz:Nat}{W:World}{its:List FItem}{o:Oper}{d B:Nat}{cs:Array Value}{T:TypeId}(hB:B≤W.heap.size)(hdst:o.dst=some d:=by exact rfl)(hlt:d<sz:=by decide)
  (h:∀(a:Act) (w:World),Below W.heap.size W w→LiveAll F a→DepsHold its a w (deps o)→∀(K:Act→World→Prop) (Q:Exit→Act→World→Prop),K (a.put (some d) (.pointer (some ⟨w.heap.size,0,none⟩))) (w.alloc (.cells cs T))→o.wp P a w K Q:=by
   (intro a w hb zl hd K Q hK;have q:=gA zl;simp only[GetAll]at q;simp[deps,Region.binds,deG,deN,eqG]at hd;go_simp;exact hK)):
  Bare P Q F sz W its o (FItem.pb d B T cs):=fun a w hb hs hl hd K hK=>h a w hb hl hd K Q (by
 rw[hdst]at hK;exact hK _ _ ((Below.refl _ _).alloc (Nat.le_refl _) _) (pb_put hs hlt ⟨w.heap.size,rfl,Blk.new w _ _,Nat.le_trans hB hb.size⟩))
end
end Go.Proofs.YtjhnnjhaklohhaaGreatDoor
