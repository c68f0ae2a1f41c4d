/- A tally of signatures, in plain numbers. The signatures of a commit, one by one. One block turns, and all else stays. A commit of a set: more than two thirds; more than a part of another set. The next header is verified. A later header is verified. What the check of a header says. A set mixed of two lists. The place of a seat in a set, by a closure; the level that the law asks. A header with its commit, as the package has them, out of the thin package's. -/
import Derived.Test.YtjhnnjhaklohhaaGreatDoorM11
import Derived.Test.YtjhnnjhaklohhaaGreatDoorM10
import Derived.Maps.OwnSet
import Derived.Test.YtjhnnjhaklohhaaGreatDoorM1
import Derived.Test.YtjhnnjhaklohhaaGreatDoorM8
set_option linter.unusedVariables false
set_option linter.unusedSimpArgs false
set_option maxHeartbeats 4000000
set_option maxRecDepth 100000
namespace Go.Proofs.YtjhnnjhaklohhaaGreatDoor
open Go.RowKit
theorem fixL_bytes(f n:Nat)(hf:f≤15):Bytes (fixL f n):=by
 unfold fixL;split
 ·exact Bytes.nil
 ·refine Bytes.cons (by unfold U8;omega) (fun x hx=>?_);unfold le8 at hx;obtain⟨i,_,rfl⟩:=List.mem_map.1 hx;unfold U8;omega
theorem bodyL_bytes(tw:Bool)(ht rd:Int)(s:List Int)(p:Int)(r:List Int)(sec ns:Int)(ch:ByteArray)(hs:Bytes s)(hr:Bytes r):Bytes (bodyL tw ht rd s p r sec ns ch):=by
 have h1:=numL_bytes 1 2 (by decide);have h2:=fixL_bytes 2 ht.toNat (by decide);have h3:=fixL_bytes 3 rd.toNat (by decide);have h4:Bytes (if tw then withinL 4 (bidL s p r)else[]):=by
  split
  ·exact withinL_bytes 4 _ (by decide) (bidL_bytes s p r hs hr)
  ·exact Bytes.nil
 have h5:=withinL_bytes 5 (numL 1 sec.toNat++numL 2 ns.toNat) (by decide) ((numL_bytes 1 _ (by decide)).append (numL_bytes 2 _ (by decide)));have h6:=someL_bytes 6 (bytesOf ch) (by decide) (bytesOf_bytes ch);unfold bodyL;exact((((h1.append h2).append h3).append h4).append h5).append h6
theorem bodyL_small(tw:Bool)(ht rd:Int)(s:List Int)(p:Int)(r:List Int)(sec ns:Int)(ch:ByteArray)(hs:s.length≤1000)(hp:p≤4294967295)(hr:r.length≤1000)(h1:0≤sec∧sec≤9000000000000000000)(h2:0≤ns∧ns≤2147483647)(hch:ch.size≤1000):(bodyL tw ht rd s p r sec ns ch).length≤5000:=by
 have n1:=numL_len 1 2 (by decide);have n2:=fixL_len 2 ht.toNat;have n3:=fixL_len 3 rd.toNat;have n4:(bidL s p r).length≤3000:=by
  unfold bidL;have h1:=someL_len 1 s (by omega);have h2:=pshL_len p r hp (by omega);have h3:=withinL_len 2 (pshL p r) (by omega);rw[List.length_append];omega
 have n5:=withinL_len 4 (bidL s p r) (by omega);have n6:=numL_len 1 sec.toNat (by omega);have n7:=numL_len 2 ns.toNat (by omega);have n8:=withinL_len 5 (numL 1 sec.toNat++numL 2 ns.toNat) (by rw[List.length_append];omega);have n9:=someL_len 6 (bytesOf ch) (by rw[bytesOf_length];omega);rw[List.length_append]at n8;rw[bytesOf_length]at n9;unfold bodyL
 cases tw;all_goals
  simp only[List.length_append,Bool.false_eq_true,if_false,if_true,List.length_nil];omega
theorem msgL_ok(tw:Bool)(ht rd:Int)(s:List Int)(p:Int)(r:List Int)(sec ns:Int)(ch:ByteArray)(hs:Bytes s)(hr:Bytes r)(hsl:s.length≤1000)(hp:p≤4294967295)(hrl:r.length≤1000)(h1:0≤sec∧sec≤9000000000000000000)(h2:0≤ns∧ns≤2147483647)(hch:ch.size≤1000):Bytes (msgL tw ht rd s p r sec ns ch)∧(msgL tw ht rd s p r sec ns ch).length≤2200000000:=by
 have hb:=bodyL_small tw ht rd s p r sec ns ch hsl hp hrl h1 h2 hch;unfold msgL;refine⟨(vi_bytes _).append (bodyL_bytes tw ht rd s p r sec ns ch hs hr),?_⟩;have:=vi_len63 (bodyL tw ht rd s p r sec ns ch).length (by omega);rw[List.length_append];omega
theorem vsb_ok(C:Cm)(x:CS)(ch:ByteArray)(w:World)(hb:C.b.ok w)(hp:C.bp.ok w)(hn:C.num)(ht:TmOk x.sec x.ns)(hch:ch.size≤1000):Bytes (C.vsb x ch)∧(C.vsb x ch).length≤2200000000:=by
 have:=msgL_ok true C.ht C.rd C.b.l C.bt C.bp.l (x.sec-62135596800) x.ns ch hb.b8 hp.b8 (by rw[hn.b];omega) hn.bt.2 (by rw[hn.bp];omega) (by have:=ht.sec;omega) ht.ns hch;rw[msgL_vsb,show x.sec-62135596800+62135596800=x.sec by omega]at this;exact this
def plc(look:Bool)(V:List Vl)(i:Nat)(s:CS):Option Nat:=if look then some i else adAt V s.ad.l
def pwr(look:Bool)(V:List Vl)(i:Nat)(s:CS):Int:=if s.fl=2 then(match(plc look V i s).bind (V[·]?)with|some v=>v.p|none=>0)else 0
def tal(look:Bool)(V:List Vl)(S:List CS):Nat→Int
 |0=>0
 |k+1=>tal look V S k+(match S[k]? with|some s=>pwr look V k s|none=>0)
theorem tal_succ(look:Bool)(V:List Vl)(S:List CS)(k:Nat):tal look V S (k+1)=tal look V S k+(match S[k]? with|some s=>pwr look V k s|none=>0):=rfl
theorem pwr_nn{look:Bool}{V:List Vl}{i:Nat}{s:CS}(hp:∀v∈V,0<v.p∧v.p≤1000000):0≤pwr look V i s∧pwr look V i s≤1000000:=by
 unfold pwr;split
 ·cases h:(plc look V i s).bind (V[·]?)with
  |none=>simp
  |some v=>
   obtain⟨j,_,hj⟩:=Option.bind_eq_some_iff.1 h;have:=hp v (List.mem_of_getElem? hj);simp only;omega
 ·omega
theorem tal_mono{look:Bool}{V:List Vl}{S:List CS}(hp:∀v∈V,0<v.p∧v.p≤1000000):∀{k n:Nat},k≤n→tal look V S k≤tal look V S n:=by
 intro k n h;induction n with
 |zero=>rw[Nat.le_zero.1 h];exact Int.le_refl _
 |succ n ih=>
  rcases Nat.lt_or_ge n k with h1|h1
  ·rw[show k=n+1 by omega];exact Int.le_refl _
  ·have h3:=ih h1;rw[tal_succ]
   cases hs:S[n]? with
   |none=>simp only;omega
   |some s=>
    have:=(pwr_nn (look:=look) (i:=n) (s:=s) hp).1;simp only;omega
theorem tal_le{look:Bool}{V:List Vl}{S:List CS}(hp:∀v∈V,0<v.p∧v.p≤1000000)(n:Nat):0≤tal look V S n∧tal look V S n≤1000000*n:=by
 induction n with
 |zero=>simp[tal]
 |succ n ih=>
  unfold tal;split
  ·rename_i s hs;have:=pwr_nn (look:=look) (i:=n) (s:=s) hp;omega
  ·omega
end Go.Proofs.YtjhnnjhaklohhaaGreatDoor
namespace Go.Proofs.YtjhnnjhaklohhaaGreatDoor
open Go.RowKit Go.Maps
def TalRes(look:Bool)(V:List Vl)(C:Cm)(ch:ByteArray)(need:Int)(e:Ending):Prop:=
 e=.returned .nilIface∧need<tal look V C.S C.S.length∨
 e=.returned (.iface 146 (.agg #[.int .i64 (tal look V C.S C.S.length),.int .i64 need]))∧tal look V C.S C.S.length≤need∨
 (∃q:Addr,e=.returned (.iface 166 (.pointer (some q))))∧∃(i j:Nat) (s:CS) (v:Vl),C.S[i]?=some s∧s.fl=2∧plc look V i s=some j∧V[j]?=some v∧s.sg.l≠psL v.ky.l (C.vsb s ch)
structure SingOk(look:Bool)(V:Vs)(C:Cm)(ch:ByteArray)(need:Int):Prop where
 num:C.num
 cs:∀s∈C.S,s.fl=2→s.wf∧TmOk s.sec s.ns
 p:∀v∈V.V,0<v.p∧v.p≤1000000
 n:V.P.length≤1000
 at_:look=true→V.P.length=C.S.length
 ch:ch.size≤1000
 need:0≤need∧need≤1000000000000000
 dist:look=false→∀(i i' j:Nat) (s s':CS),C.S[i]?=some s→C.S[i']?=some s'→s.fl=2→s'.fl=2→adAt V.V s.ad.l=some j→adAt V.V s'.ad.l=some j→i=i'
theorem run_makeMapN(n:Int)(w:World)(hn:0≤n∧n≤1000000000):(Instr.makeMap 219 (some (.int .i64 n))).run Tryz.prog w=.ok (.map (some w.heap.size)) (w.alloc (.map #[] 0)):=by
 have e:IntKind.i64.wrap n=n:=IntWalk.i64_in _ (by omega);simp[Instr.makeMap,run_underlying Tryz.underlying219,asInt,asIntOf,e]
section
variable{P:Program}{ops:Array Oper}{Q:Exit→Act→World→Prop}
theorem tsr{o:Oper}{rest:List Oper}{a:Act}{w:World}{d x g sz:Nat}{F:List (Nat×Value)}{cs cur:Array Value}{T:TypeId}(hs:SzIs a sz)(hd:DfNil a)(zl:LiveAll F a)(hb:Blk w g T cur)(h1:∀v∈cs.toList,v.oneCell'=true)
  (h:Blk (w.setRow g cs) g T cs→∀a',SzIs a' sz→DfNil a'→LiveAll F a'→wpList P ops Q rest a' (w.setRow g cs))
  (ho:o.op=.store T (.tmp d) (.tmp x):=by exact rfl)(hx:F.lookup x=some (.agg cs):=by exact rfl)(hdl:F.lookup d=some (.pointer (some ⟨g,0,none⟩)):=by exact rfl)(hg:o.guard=none:=by exact rfl)(hdst:o.dst=none:=by exact rfl)
  (hcur:cs.size=cur.size:=by exact rfl)(hi:(P.info? T).map (·.size)=some cs.size:=by kernel_rfl):wpList P ops Q (o::rest) a w:=
 tail_op hg fun K hK=>op_store_row T (.tmp d) (.tmp x) ho g (sl zl d hdl) cs (sl zl x hx) T cur hb hcur hi h1 (by rw[hdst];exact hK _ _ (h (hb.setRow cs) _ hs hd zl))
end
theorem meth_kV2(k a:HSl)(w:World):(method 386 159 (.agg (keyV k a)) "VerifySignature").run Tryz.prog w=.ok (195,.agg (keyV k a)) w:=by kernel_rfl
theorem meth_kNV2(k a:HSl)(w:World):(nilAhead 386 159 (.agg (keyV k a)) "VerifySignature").run Tryz.prog w=.ok (some false) w:=by kernel_rfl
theorem owns_ne{P:Program}{k:TypeId}{R:Value→Option (DataW Unit×List MemPlace)}{u:World}{g n q:Nat}{D:DataW Unit}{T:TypeId}{cs:Array Value}(h:u.ownsMap P k R g n D)(hq:Blk u q T cs):q≠g:=by
 obtain⟨es,clock,hb,_⟩:=h;intro e;subst e;unfold Blk at hq;rw[hq]at hb;injection hb with hb
 cases hb
theorem then_cut{P:Program}{Q:Exit→Act→World→Prop}{c:Code}{N:Act→World→Prop}{a:Act}{w:World}(I:Act→World→Prop)(h1:c.wp P (Exit.then I Q) a w)(h2:∀a w,I a w→N a w):c.wp P (Exit.then N Q) a w:=
 Code.wp_mono (fun e a w q=>by cases e <;> first|exact h2 _ _ q|exact q) h1
def Seen(V:List Vl)(S:List CS)(gm k:Nat)(u:World):Prop:=∃(D:DataW Unit) (m:Nat),u.ownsMap Tryz.prog 21 (plainElem Tryz.prog 3) gm m D∧m≤k∧∀j:Nat,Maps.has D (.int .i32 j)=true→∃(i:Nat) (s:CS),i<k∧S[i]?=some s∧s.fl=2∧adAt V s.ad.l=some j
theorem Seen.after{V:List Vl}{S:List CS}{gm k:Nat}{u u':World}(h:Seen V S gm k u)(hb:Below u.heap.size u u'):Seen V S gm k u':=by
 obtain⟨D,m,h1,h2,h3⟩:=h;exact⟨D,m,h1.kept (gb_below hb none) (by simp),h2,h3⟩
theorem Seen.next{V:List Vl}{S:List CS}{gm k:Nat}{u:World}(h:Seen V S gm k u):Seen V S gm (k+1) u:=by
 obtain⟨D,m,h1,h2,h3⟩:=h;exact⟨D,m,h1,by omega,fun j hj=>by obtain⟨i,s,h4,h5⟩:=h3 j hj;exact⟨i,s,by omega,h5⟩⟩
theorem c_sing(look:Bool)(V:Vs)(C:Cm)(gv gc ig co:Nat)(ch:ByteArray)(need:Int)(w:World)(hgv:Blk w gv 157 V.cells)(hV:V.in_ w)(hC:C.at w gc)(hok:SingOk look V C ch need)
  (hig:∀(s:CS) (w:World),Calls Tryz.prog ig #[.agg s.cells.toArray] w fun e w'=>e=.returned (.bool (s.fl != 2))∧Below w.heap.size w w')(hco:∀(s:CS) (w:World),Calls Tryz.prog co #[.agg s.cells.toArray] w fun e w'=>e=.returned (.bool true)∧Below w.heap.size w w')
  (hei:∀args w,(callFunc ig args).run Tryz.prog w=.ok (.enter ig args) w)(heo:∀args w,(callFunc co args).run Tryz.prog w=.ok (.enter co args) w)(hKt:KTab w 1)(h0:1<w.heap.size):
  Calls Tryz.prog 120 #[.string ch,.pointer (some ⟨gv,0,none⟩),.pointer (some ⟨gc,0,none⟩),.int .i64 need,.func (.func ig) #[] #[],.func (.func co) #[] #[],.bool false,.bool look] w fun e w'=>TalRes look V.V C ch need e∧Below w.heap.size w w':=by
 refine en (sz:=126) rfl rfl rfl fun a hs hd zl=>?_;have hB:=bz_refl w
 obtain⟨n,hN⟩:∃n,Is C.S.length n:=is_self _;have hn20:=hok.num.n;rw[hN.out]at hn20;have c5:w.cell? ⟨gc,5,none⟩=some (.slice C.A n C.c):=by rw[← hN.out];exact hC.blk.cell 5
 have lc:=hC.blk.lt;refine wW ?_;clear hs hd zl;intro a hs hd zl;have hmk:=fun(w:World)=>run_makeMapN (n:Int) w (by omega)
 refine tk hs hd zl (v:=.map (some w.heap.size)) (w':=w.alloc (.map #[] 0)) (fun K Q hK=>by
  have q:=gA zl;simp only[GetAll]at q;go_simp;exact hK) ?_
 clear hmk;clear hs hd zl;intro a hs hd zl;have hmap:(w.alloc (.map #[] 0)).ownsMap (H:=Unit) Tryz.prog 21 (plainElem Tryz.prog 3) w.heap.size 0 (.map []):=World.ownsMap_made _ _ _ _;obtain⟨gm,hgm⟩:∃g,Is w.heap.size g:=is_self _;have hgme:w.heap.size≤gm:=Nat.le_of_eq hgm.out;rw[hgm.out]at zl hmap;have hb:Below w.heap.size w (w.alloc (.map #[] 0)):=(Below.refl _ _).alloc (Nat.le_refl _) _;generalize w.alloc (.map #[] 0)=u at hmap hb⊢;replace hB:=bz_then hB hb;(try clear hup);have hup:=bup hB;clear hb;refine wW ?_;clear hs hd zl;intro a hs hd zl;clear c5;have hsn:Seen V.V C.S gm 0 u:=⟨_,0,hmap,Nat.le_refl _,fun j h=>by cases h⟩;refine wp_loop (fun a u=>∃(k:Nat),SzIs a 126∧DfNil a∧LiveAll [(0,.string ch),(1,.pointer (some ⟨gv,0,none⟩)),(2,.pointer (some ⟨gc,0,none⟩)),(3,.int .i64 need),(4,.func (.func ig) #[] #[]),(5,.func (.func co) #[] #[]),(6,.bool false),(7,.bool look),(19,.map (some gm)),(20,.int .i64 (tal look V.V C.S k)),(37,.slice C.A n C.c),(38,.int .i64 ((n:Nat):Int)),(39,.int .i64 ((k:Nat):Int))] a∧k≤n∧tal look V.V C.S k≤need∧Seen V.V C.S gm k u∧Below w.heap.size w u)
  (fun a _=>n-(intOf (a.tmps.getD 39 undef)).toNat) ⟨0,hs,hd,ks zl,Nat.zero_le _,hok.need.1,hsn,hB⟩ ?_
 clear hs hd zl hB hup hmap hsn;rintro a u ⟨k,hs,hd,zl,hk,htl,hsn,hB⟩;have hm:(intOf (a.tmps.getD 39 undef)).toNat=k:=by rw[sl zl 39];simp[intOf]
 rw[hm];clear hm;obtain⟨tk0,hTK⟩:∃x,Is (tal look V.V C.S k) x:=is_self _;rw[hTK.out]at zl htl;have fin:∀(u:World) (a:Act) (x:Int),k<n→tal look V.V C.S (k+1)=x→x≤need→Seen V.V C.S gm (k+1) u→Below w.heap.size w u→SzIs a 126→DfNil a→LiveAll [(0,.string ch),(1,.pointer (some ⟨gv,0,none⟩)),(2,.pointer (some ⟨gc,0,none⟩)),(3,.int .i64 need),(4,.func (.func ig) #[] #[]),(5,.func (.func co) #[] #[]),(6,.bool false),(7,.bool look),(19,.map (some gm)),(20,.int .i64 x),(37,.slice C.A n C.c),(38,.int .i64 ((n:Nat):Int)),(39,.int .i64 (((k+1:Nat)):Int))] a→
   (∃(k:Nat),SzIs a 126∧DfNil a∧LiveAll [(0,.string ch),(1,.pointer (some ⟨gv,0,none⟩)),(2,.pointer (some ⟨gc,0,none⟩)),(3,.int .i64 need),(4,.func (.func ig) #[] #[]),(5,.func (.func co) #[] #[]),(6,.bool false),(7,.bool look),(19,.map (some gm)),(20,.int .i64 (tal look V.V C.S k)),(37,.slice C.A n C.c),(38,.int .i64 ((n:Nat):Int)),(39,.int .i64 ((k:Nat):Int))] a∧k≤n∧tal look V.V C.S k≤need∧Seen V.V C.S gm k u∧Below w.heap.size w u)∧n-(intOf (a.tmps.getD 39 undef)).toNat<n-k:=
  fun u a x h1 h2 h3 h4 h5 hs hd zl=>⟨⟨k+1,hs,hd,by rw[h2];exact zl,h1,by rw[h2];exact h3,h4,h5⟩,by rw[sl zl 39];simp[intOf];omega⟩
 have hts:=tal_succ look V.V C.S k;have htb:=tal_le (look:=look) (S:=C.S) hok.p k;rw[hTK.out]at hts htb;by_cases hlt:k<n
 ·have e1:decide (k<n)=true:=decide_eq_true hlt;have ew:IntKind.i64.wrap ((k:Int)+1)=((k+1:Nat):Int):=by rw[IntWalk.i64_in _ (by omega)];omega
  have ewi:IntKind.i32.wrap (k:Int)=(k:Int):=IntWalk.i32_in _ (by omega);obtain⟨s,hSk⟩:∃s,C.S[k]?=some s:=⟨C.S[k]'(by rw[hN.out];exact hlt),List.getElem?_eq_getElem _⟩;obtain⟨b,o,eA,hb0,hcs⟩:=(hC.rows.after hB).at_ (by unfold csRows;rw[List.length_map,hN.out];omega);have hck:=hcs k s.cells (by unfold csRows;rw[List.getElem?_map,hSk];rfl);rw[hSk]at hts;have HTS:=Is.hid hts;have HS:=Is.hid hSk;have HA:=Is.hid eA;have HTB:=Is.hid htb;have HTL:=Is.hid htl;rw[eA]at zl;clear hcs hSk hts htb htl eA;refine wW ?_;clear hs hd zl;intro a hs hd zl;refine tk hs hd zl (fun K Q hK=>op_load_cells 124 (.tmp 42) rfl b _ (sl zl 42) s.cells _ hck.2 rfl rfl (by kernel_rfl) hK) ?_;clear hs hd zl;intro a hs hd zl;clear hck hb0;refine ta hs hd zl ?_;intro g23 u1 hg23 hge23 hb;clear hs hd zl;intro a hs hd zl;refine wW ?_;clear hs hd zl;intro a hs hd zl;refine tsr (g:=g23) (cs:=s.cells.toArray) hs hd zl hg23 s.one ?_;intro hg2;clear hs hd zl;intro a hs hd zl;have hb2:=below_setRow hb hge23 s.cells.toArray;generalize u1.setRow g23 s.cells.toArray=u2 at hg2 hb2⊢;clear hb hg23;replace hsn:=hsn.after hb2;have HGE:=Nat.le_trans hB.size hge23;replace hB:=bz_then hB hb2;replace zl:=kp [0,1,2,3,4,5,6,7,19,20,22,23,37,38,39] zl;clear hb2 hge23;refine wW ?_;clear hs hd zl;intro a hs hd zl;refine tk hs hd zl (fun K Q hK=>op_load_row 124 (.tmp 23) rfl g23 (sl zl 23) _ s.cells.toArray _ hg2 rfl rfl (by kernel_rfl) hK) ?_;clear hs hd zl;intro a hs hd zl;refine tc (hig s u2) hs hd zl ?_;rintro _ u ⟨rfl,hb⟩;refine⟨_,rfl,?_⟩;clear hs hd zl;intro a hs hd zl;replace hg2:=hg2.after hb;replace hsn:=hsn.after hb;replace hB:=bz_then hB hb;clear hb;by_cases hfl:s.fl=2
  ·rw[show(s.fl != 2)=false by rw[hfl];rfl]at zl;have HFL:=Is.hid hfl;clear hfl;have hwf:=hok.cs s (List.mem_of_getElem? HS.out) HFL.out;have hsk:=hC.ok s (List.mem_of_getElem? HS.out)
   (repeat first|refine wp_seq ?_|refine wp_block ?_|refine wp_region_list ?_|(refine tx hs hd zl ?_;clear hs hd zl;intro a hs hd zl)|(refine tn hs hd zl ?_;clear hs hd zl;intro a hs hd zl)|refine ct zl ?_|refine cf zl ?_|refine wp_skip ?_)
   refine tk hs hd zl (fun K Q hK=>op_load_row 124 (.tmp 23) rfl g23 (sl zl 23) _ s.cells.toArray _ hg2 rfl rfl (by kernel_rfl) hK) ?_;clear hs hd zl;intro a hs hd zl;refine tc (c_csV s u hwf.1) hs hd zl ?_;rintro _ u ⟨rfl,hb⟩;refine⟨_,rfl,?_⟩;clear hs hd zl;intro a hs hd zl;replace hg2:=hg2.after hb;replace hsn:=hsn.after hb;replace hB:=bz_then hB hb;clear hb;replace zl:=kp [0,1,2,3,4,5,6,7,19,20,22,23,37,38,39,48] zl;refine wW ?_;clear hs hd zl;intro a hs hd zl;change Code.wp _ _ _ _ _;refine then_cut (fun a u=>∃(j q:Nat) (v:Vl),plc look V.V k s=some j∧V.V[j]?=some v∧Blk u q 163 v.cells∧Blk u g23 124 s.cells.toArray∧Seen V.V C.S gm (k+1) u∧Below w.heap.size w u∧SzIs a 126∧DfNil a∧LiveAll [(0,.string ch),(1,.pointer (some ⟨gv,0,none⟩)),(2,.pointer (some ⟨gc,0,none⟩)),(3,.int .i64 need),(4,.func (.func ig) #[] #[]),(5,.func (.func co) #[] #[]),(6,.bool false),(7,.bool look),(17,.pointer (some ⟨q,0,none⟩)),(19,.map (some gm)),(20,.int .i64 tk0),(22,.int .i64 ((k:Nat):Int)),(23,.pointer (some ⟨g23,0,none⟩)),(37,.slice (some ⟨b,o,none⟩) n C.c),(38,.int .i64 ((n:Nat):Int)),(39,.int .i64 ((k:Nat):Int))] a) ?_ ?_
   ·have hup:=bup hB
    cases hlk:look with
    |true=>
     subst hlk;have hat:=hok.at_ rfl;obtain⟨p,v,b1,o1,eA,hPk,hVk,hv,hbl,ck⟩:=hV.vin.get (k:=k) (by rw[hat,hN.out];exact hlt);have v0:w.cell? ⟨gv,0,none⟩=some (.slice (some ⟨b1,o1,none⟩) n V.c):=by rw[← eA,← hN.out,← hat];exact hgv.cell 0
     have lv:=hgv.lt;have HV:=Is.hid hVk;clear hat eA hPk hVk;refine wW ?_;clear hs hd zl;intro a hs hd zl;exact⟨k,p,v,rfl,HV.out,hv.blk.after hB,hg2,hsn.next,hB,hs,hd,ks zl⟩
    |false=>
     subst hlk;have d1:u.cell? ⟨g23,1,none⟩=some (.slice s.ad.A s.ad.l.length s.ad.c):=hg2.cell 1;refine wW ?_;clear hs hd zl;intro a hs hd zl;have had:=(hsk.after hB).ad;refine tc (c_gba V gv s.ad.A s.ad.c s.ad.l u (hgv.after hB) (hV.after hB) hok.n had.fm had.bs had.b8) hs hd zl ?_;clear d1 hup;rintro _ u ⟨h,hb⟩;replace hg2:=hg2.after hb;replace hsn:=hsn.after hb;replace hB:=bz_then hB hb;clear hb had;rcases h with⟨j,q,v,h1,h2,hq,rfl⟩|⟨h1,rfl⟩
     ·refine⟨_,rfl,?_⟩;clear hs hd zl;intro a hs hd zl;have hj:j<V.P.length:=by rw[hV.len];exact(List.getElem?_eq_some_iff.1 h2).1
      have hj1:=hok.n;have H1:=Is.hid h1;have H2:=Is.hid h2;clear h1 h2;obtain⟨D,m,hown,hm1,hhas⟩:=hsn;have hkey:keyOf Tryz.prog 21 (.int .i32 (j:Int))=some (.int .i32 (j:Int)):=keyOf_int_mk Tryz.underlying21 (WalkArith.wf_i32 (by omega));have hz:(zeroValue 3).run Tryz.prog u=.ok (.int .i64 0) u:=by kernel_rfl
      obtain⟨x,ps,hrun,-⟩:=hown.look_ok (int_keyed Tryz.underlying21) Tryz.underlying219 hz (plainElem_int Tryz.underlying3 (WalkArith.wf_i64 (by omega))) hkey;have hhf:Maps.has D (.int .i32 (j:Int))=false:=by
       cases hc:Maps.has D (.int .i32 (j:Int))with
       |false=>rfl
       |true=>
        obtain⟨i,s',h3,h4,h5,h6⟩:=hhas j hc;have:=hok.dist rfl i k j s' s h4 HS.out h5 HFL.out h6 H1.out;omega
      rw[hhf]at hrun;have HH:=Is.hid hhas;clear hhas hz;refine wW ?_;clear hs hd zl;intro a hs hd zl;clear hrun hhf;refine wpList_mapUpdate_own u rfl (.tmp 76) (.tmp 77) (.tmp 78) 219 rfl 21 3 (int_keyed Tryz.underlying21) Tryz.underlying219 _ gm m D (sl zl 76) hown (by unfold maxLen;omega) _ _ (.int .i32 (j:Int)) (sl zl 77) (sl zl 78) hkey (.lit (.int .i64 (k:Int))) [] (plainElem_int Tryz.underlying3 (WalkArith.wf_i64 (by omega))) ?_;intro u1 hown1 hgrow1;change wpList _ _ _ _ a _;have hq1:Blk u1 q _ _:=gb_blk hgrow1 hq (fun e=>owns_ne hown hq (by injection e));have hg3:Blk u1 g23 _ _:=gb_blk hgrow1 hg2 (fun e=>owns_ne hown hg2 (by injection e));have hB1:Below w.heap.size w u1:=GB.below2 hB hgrow1 hgme;refine⟨j,q,v,H1.out,H2.out,hq1,hg3,⟨_,_,hown1,by omega,fun j' hj'=>?_⟩,hB1,hs,hd,ks zl⟩;by_cases hjj:j'=j
      ·exact⟨k,s,by omega,HS.out,HFL.out,by rw[hjj];exact H1.out⟩
      ·rw[Maps.has_put_other (fun e=>hjj (by injection e with _ e;exact Int.ofNat.inj e))]at hj';obtain⟨i,s',h3,h4⟩:=HH.out j' hj';exact⟨i,s',by omega,h4⟩
     ·refine⟨_,rfl,?_⟩;clear hs hd zl;intro a hs hd zl;have H1:=Is.hid h1;clear h1;refine wW ?_;clear hs hd zl;intro a hs hd zl;refine wp_exit ?_;(repeat refine then_exit ?_);refine inBlock_exit ?_;refine wW ?_;clear hs hd zl;intro a hs hd zl;rw[← HA.out]at zl;exact fin _ _ _ hlt (by rw[HTS.out];simp only[pwr,if_pos HFL.out,plc,Bool.false_eq_true,if_false,H1.out,Option.bind_none];omega) HTL.out hsn.next hB hs hd (ks zl)
   ·clear hs hd zl hB hsn hg2 u;rintro a u ⟨j,q,v,hpl,hVj,hq,hg2,hsn,hB,hs,hd,zl⟩;have HPL:=Is.hid hpl;have HVJ:=Is.hid hVj;have hvp:=hok.p v (List.mem_of_getElem? hVj);have hpw:pwr look V.V k s=v.p:=by simp only[pwr,if_pos HFL.out,hpl,Option.bind_some,hVj]
    have hkok:=(hV.vl j _ v (List.getElem?_eq_getElem (by rw[hV.len];exact(List.getElem?_eq_some_iff.1 hVj).1)) hVj).ky;have HPW:=Is.hid hpw;clear hpl hVj hpw;have q1:u.cell? ⟨q,1,none⟩=some (.iface 159 (.agg (keyV v.ky v.ad))):=hq.cell 1;refine wW ?_;clear hs hd zl;intro a hs hd zl;clear q1;refine tc (c_VSB C s gc k ch u (hC.after hB) HS.out HFL.out (by omega) hok.num hwf.2 (by have:=hok.ch;omega)) hs hd zl ?_;rintro _ u ⟨vm,rfl,hvm,hb⟩;obtain⟨hv8,hvn⟩:=vsb_ok C s ch w hC.b hC.bp hok.num hwf.2 hok.ch;obtain⟨m,rfl,hmk,hml⟩:=hvm.sl hv8 hvn;refine⟨_,rfl,?_⟩;clear hs hd zl;intro a hs hd zl;replace hq:=hq.after hb;replace hg2:=hg2.after hb;replace hsn:=hsn.after hb;replace hB:=bz_then hB hb;clear hb hvm hv8 hvn;have q1:u.cell? ⟨q,1,none⟩=some (.iface 159 (.agg (keyV v.ky v.ad))):=hq.cell 1;have d4:u.cell? ⟨g23,4,none⟩=some s.sg.v:=hg2.cell 4;have lq:=hq.lt;have l2:=hg2.lt;have m1:=meth_kV2 v.ky v.ad;have m2:=meth_kNV2 v.ky v.ad;refine wW ?_;clear hs hd zl;intro a hs hd zl;replace zl:=kp [0,1,2,3,4,5,6,7,17,19,20,21,22,23,37,38,39] zl
    (try change Code.wp _ _ _ _ _);refine fx [(90,_),(91,_),(92,_),(93,_),(94,_),(95,_),(96,_)] 7 hs hd zl ?_;clear hs hd zl;intro a u hb hs hd zl
    replace hq:=hq.after hb;replace hg2:=hg2.after hb;replace hsn:=hsn.after hb;replace hmk:=hmk.after hb;replace hB:=bz_then hB hb;clear hb q1 d4 lq l2;refine tc (show Calls Tryz.prog 195 #[.agg (keyV v.ky v.ad),m.v,s.sg.v] u _ from c_Verify v.ky m s.sg v.ad.v (.bool false) u rfl rfl (hkok.after hB) hmk (hsk.after hB).sg (hKt.after hB) (Nat.lt_of_lt_of_le h0 hB.size)) hs hd zl ?_;clear m1 m2;rintro _ u ⟨rfl,hb⟩;refine⟨_,rfl,?_⟩;clear hs hd zl;intro a hs hd zl;replace hq:=hq.after hb;replace hg2:=hg2.after hb;replace hsn:=hsn.after hb;replace hB:=bz_then hB hb;clear hb;replace zl:=kp [0,1,2,3,4,5,6,7,17,19,20,22,23,37,38,39,97] zl;by_cases hsg:s.sg.l=psL v.ky.l m.l
    ·rw[decide_eq_true hsg]at zl;have HSG:=Is.hid hsg;clear hsg;refine wW ?_;clear hs hd zl;intro a hs hd zl;refine tk hs hd zl (fun K Q hK=>op_load_row 124 (.tmp 23) rfl g23 (sl zl 23) _ s.cells.toArray _ hg2 rfl rfl (by kernel_rfl) hK) ?_;clear hs hd zl;intro a hs hd zl;refine tc (hco s u) hs hd zl ?_;rintro _ u ⟨rfl,hb⟩;refine⟨_,rfl,?_⟩;clear hs hd zl;intro a hs hd zl;replace hq:=hq.after hb;replace hsn:=hsn.after hb;replace hB:=bz_then hB hb;clear hb;have q2:u.cell? ⟨q,2,none⟩=some (.int .i64 v.p):=hq.cell 2;have htb:=HTB.out;have ewp:IntKind.i64.wrap (tk0+v.p)=tk0+v.p:=IntWalk.i64_in _ (by omega);clear htb;have hnx:tal look V.V C.S (k+1)=tk0+v.p:=by rw[HTS.out];simp only[HPW.out]
     have HNX:=Is.hid hnx;clear hnx;by_cases hgt:need<tk0+v.p
     ·have e5:decide (need<tk0+v.p)=true:=decide_eq_true hgt;have HGT:=Is.hid hgt;clear hgt;refine wW ?_;clear hs hd zl;intro a hs hd zl;refine wp_ret ?_;(repeat first|refine then_ret ?_|refine inBlock_ret ?_);exact end_tmp rfl hd (sl zl 16) ⟨.inl ⟨rfl,by have:=tal_mono (look:=look) (S:=C.S) hok.p (show k+1≤C.S.length by rw[hN.out];exact hlt);rw[HNX.out]at this;have:=HGT.out;omega⟩,hB⟩
     ·have e5:decide (need<tk0+v.p)=false:=decide_eq_false hgt;have HGT:Kept (tk0+v.p≤need):=Is.hid (by omega);clear hgt;refine wW ?_;clear hs hd zl;intro a hs hd zl;rw[← HA.out]at zl;exact fin _ _ _ hlt HNX.out HGT.out hsn hB hs hd (ks zl)
    ·rw[decide_eq_false hsg]at zl;have HSG:=Is.hid hsg;clear hsg;refine wW ?_;clear hs hd zl;intro a hs hd zl;refine tc (c_errNew _ u) hs hd zl ?_;rintro _ u ⟨x,rfl,hb⟩;refine⟨_,rfl,?_⟩;clear hs hd zl;intro a hs hd zl;refine wW ?_;clear hs hd zl;intro a hs hd zl;refine wp_ret ?_;(repeat first|refine then_ret ?_|refine inBlock_ret ?_);exact end_tmp rfl hd (sl zl 16) ⟨.inr (.inr ⟨⟨x,rfl⟩,k,j,s,v,HS.out,HFL.out,HPL.out,HVJ.out,by rw[← hml.out];exact HSG.out⟩),bz_then hB hb⟩
  ·rw[show(s.fl != 2)=true by rw[bne_iff_ne];exact hfl]at zl
   (repeat first|refine wp_seq ?_|refine wp_block ?_|refine wp_region_list ?_|(refine tx hs hd zl ?_;clear hs hd zl;intro a hs hd zl)|(refine tn hs hd zl ?_;clear hs hd zl;intro a hs hd zl)|refine ct zl ?_|refine cf zl ?_|refine wp_skip ?_)
   refine wp_exit ?_;(repeat refine then_exit ?_);refine inBlock_exit ?_;refine wW ?_;clear hs hd zl;intro a hs hd zl;rw[← HA.out]at zl;exact fin _ _ _ hlt (by rw[HTS.out];simp only[pwr,if_neg hfl];omega) HTL.out hsn.next hB hs hd (ks zl)
 ·obtain rfl:k=n:=by omega
  have e1:decide (k<k)=false:=decide_eq_false (by omega);have e2:decide (tk0≤need)=true:=decide_eq_true htl;have HTS:=Is.hid hts;clear hts;refine wW ?_;clear hs hd zl;intro a hs hd zl;refine wp_exit ?_;(repeat refine then_exit ?_);refine inBlock_exit ?_;refine wW ?_;clear hs hd zl;intro a hs hd zl;refine wp_ret ?_;(repeat first|refine then_ret ?_|refine inBlock_ret ?_);exact end_tmp rfl hd (sl zl 16) ⟨.inr (.inl ⟨by rw[hN.out,hTK.out],by rw[hN.out,hTK.out];exact htl⟩),hB⟩
end Go.Proofs.YtjhnnjhaklohhaaGreatDoor
namespace Go.Proofs.YtjhnnjhaklohhaaGreatDoor
open Go.RowKit
def NoU8(cs:Array Value):Prop:=∀(i:Nat) (x:Int),cs[i]?≠some (Value.int .u8 x)
theorem Vs.noU8(S:Vs):NoU8 S.cells:=fun i x h=>by
 unfold Vs.cells at h;rcases i with _|_|_|_|i;all_goals simp at h
theorem HSl.ok.gbT{s:HSl}{w w':World}{g:Nat}{T:TypeId}{cs:Array Value}(h:s.ok w)(hg:Blk w g T cs)(hc:NoU8 cs)(k:GB w w' g):s.ok w':=by
 rcases Nat.eq_zero_or_pos s.l.length with h0|h0
 ·exact⟨fun i hi=>by omega,h.fm,h.cap,h.b8,h.len,fun q hq=>Nat.lt_of_lt_of_le (h.blk q hq) k.size⟩
 ·exact h.gb k (not_u8 h h0 hg hc)
theorem Blk.gbT{w w':World}{g q:Nat}{T T':TypeId}{cs cs':Array Value}(h:Blk w q T' cs')(hg:Blk w g T cs)(hT:T'≠T)(k:GB w w' g):Blk w' q T' cs':=h.gbfar k (fun e=>by
 subst e;unfold Blk at h hg;rw[h]at hg;injection hg with h1;injection h1 with _ h1;exact hT h1)
theorem RowsAt.gbn{w w':World}{A:Option Addr}{k g:Nat}{R:List (List Value)}(h:RowsAt w A k R)(hb:GB w w' g)(hn:blkOf A≠some g):RowsAt w' A k R:=fun i r hr=>by
 obtain⟨h1,b,o,e,hlt,hc⟩:=h i r hr;have hne:some b≠some g:=fun e2=>hn (by rw[e];exact e2)
 exact⟨h1,b,o,e,Nat.lt_of_lt_of_le hlt hb.size,fun j v hj=>(gb_cell hb hlt hne).trans (hc j v hj)⟩
theorem csRows_gb{w w':World}{A:Option Addr}{g:Nat}{S:List CS}{T:TypeId}{cs:Array Value}(h:RowsAt w A 5 (csRows S))(hg:Blk w g T cs)(hc:NoU8 cs)(hb:GB w w' g):RowsAt w' A 5 (csRows S):=fun i r hr=>by
 obtain⟨h1,b,o,e,hlt,hcc⟩:=h i r hr;have hne:b≠g:=fun e2=>by
  subst e2;unfold csRows at hr;rw[List.getElem?_map]at hr;obtain⟨s,_,rfl⟩:=Option.map_eq_some_iff.1 hr;have:=hcc 0 (.int .u8 s.fl) rfl;rw[hg.cell]at this;exact hc _ _ this
 exact⟨h1,b,o,e,Nat.lt_of_lt_of_le hlt hb.size,fun j v hj=>(gb_cell hb hlt (fun e2=>hne (by injection e2))).trans (hcc j v hj)⟩
section
variable{w w':World}{g:Nat}{cs:Array Value}
theorem Cm.at.gb{C:Cm}{q:Nat}(h:C.at w q)(hg:Blk w g 157 cs)(hc:NoU8 cs)(k:GB w w' g):C.at w' q:=
 ⟨h.blk.gbT hg (by decide) k,h.b.gbT hg hc k,h.bp.gbT hg hc k,csRows_gb h.rows hg hc k,h.fm,h.cap,fun s hs=>⟨(h.ok s hs).ad.gbT hg hc k,(h.ok s hs).sg.gbT hg hc k⟩⟩
theorem Sh.at.gb{s:Sh}(h:s.at w)(hg:Blk w g 157 cs)(hc:NoU8 cs)(k:GB w w' g):s.at w':=
 ⟨h.hb.gbT hg (by decide) k,⟨h.hk.bh.gbT hg hc k,h.hk.bp.gbT hg hc k,fun i hi=>(h.hk.hh i hi).gbT hg hc k⟩,h.hps.gbT hg hc k,h.hc.gb hg hc k⟩
theorem Vs.in_.gb{S:Vs}(h:S.in_ w)(hg:Blk w g 157 cs)(hc:NoU8 cs)(hA:blkOf S.A≠some g)(k:GB w w' g):S.in_ w':=
 ⟨h.len,h.rows.gbn k hA,fun i p v h1 h2=>⟨(h.vl i p v h1 h2).blk.gbT hg (by decide) k,(h.vl i p v h1 h2).ad.gbT hg hc k,(h.vl i p v h1 h2).ky.gbT hg hc k⟩,h.pr⟩
theorem KTab.gbT{q:Nat}(h:KTab w q)(hg:Blk w g 157 cs)(hc:∀(i:Nat) (x:Int),cs[i]?≠some (Value.int .u32 x))(k:GB w w' g):KTab w' q:=h.gb k (fun e=>by
 subst e;have:=h 0 (by decide);rw[hg.cell]at this;exact hc _ _ this)
end
theorem Vs.noU32(S:Vs):∀(i:Nat) (x:Int),S.cells[i]?≠some (Value.int .u32 x):=fun i x h=>by
 unfold Vs.cells at h;rcases i with _|_|_|_|i;all_goals simp at h
theorem Vs.in_.summed{S:Vs}{w:World}(h:S.in_ w):S.summed.in_ w:=⟨h.len,h.rows,h.vl,h.pr⟩
section
variable{P:Program}{ops:Array Oper}{Q:Exit→Act→World→Prop}
theorem sdG{its:List (Option (Nat×Value))}{a:Act}{j:Nat}{js:List Nat}:SDeps its a (j::js)↔(match its[j]? with|some s=>SHolds s a|none=>True)∧SDeps its a js:=Iff.rfl
theorem sdN{its:List (Option (Nat×Value))}{a:Act}:SDeps its a []↔True:=Iff.rfl
theorem shG{t:Nat}{v:Value}{a:Act}:SHolds (some (t,v)) a↔a.tmps[t]?.getD undef=v:=by
 show a.tmps.getD t undef=v↔_
 rw[Array.getD_eq_getD_getElem?]
theorem b4{F:List (Nat×Value)}{sz:Nat}{Th:Nat→World→Prop}{its:List (Option (Nat×Value))}{r:Option Nat}{o:Oper}{d:Nat}{v:Value}(hg:o.guard=none:=by exact rfl)(hdst:o.dst=some d:=by exact rfl)(hlt:d<sz:=by decide)
  (h:∀(a:Act) (w:World) (c:Nat),Th c w→LiveAll F a→SDeps its a (deps o)→∀(K:Act→World→Prop) (Q:Exit→Act→World→Prop),K (a.put (some d) v) w→o.wp P a w K Q:=by
   (intro a w c hT zl hd K Q hK;have q:=gA zl;have q1:=hTup c w hT;simp only[GetAll]at q;simp[deps,Region.binds,sdG,sdN,shG]at hd;go_simp;exact hK)):
  StepOk4 P ops Q F sz Th its (none,r) o (some (d,v)):=fun a w c hT _ _ hs hl hd K hK=>step_plain hg (h a w c hT hl hd K Q (by rw[hdst]at hK;exact hK _ _ (put_eq hs hlt) hT))
theorem c4{F:List (Nat×Value)}{sz:Nat}{Th:Nat→World→Prop}{its:List (Option (Nat×Value))}{r1 r2:Option Nat}{o:Oper}{d:Nat}{v:Value}{f:FuncId}{args:Array Value}(hc:∀(c:Nat) (w:World),Th c w→(∀k,r1=some k→c=k)→(∀k,r2=some k→c≤k)→Calls P f args w fun e w'=>e=.returned v∧Th (after r1 c) w')
  (hg:o.guard=none:=by exact rfl)(hdst:o.dst=some d:=by exact rfl)(hlt:d<sz:=by decide)
  (h:∀(a:Act) (w:World),LiveAll F a→SDeps its a (deps o)→∀(K:Act→World→Prop) (Q:Exit→Act→World→Prop),(∀S:Ending→World→Prop,(∀v w',K (a.put (some d) v) w'→S (.returned v) w')→Calls P f args w S)→o.wp P a w K Q:=by
   (intro a w zl hd K Q hK;have q:=gA zl;simp only[GetAll]at q;simp[deps,Region.binds,sdG,sdN,shG]at hd;go_simp;(with_reducible refine hK _ ?_);exact fun v w' h=>h)):
  StepOk4 P ops Q F sz Th its (r1,r2) o (some (d,v)):=fun a w c hT hr1 hr2 hs hl hd K hK=>step_plain hg (h a w hl hd K Q fun S hS=>(hc c w hT hr1 hr2).mono fun e w' he=>by
 obtain⟨rfl,hT'⟩:=he;rw[hdst]at hK;exact hS _ _ (hK _ _ (put_eq hs hlt) hT'))
theorem sAll4:∀(G:List (Nat×Value)) {a:Act},SAll a (G.map some)→∀F,LiveAll F a→LiveAll (G++F) a
 | [],_,_,_,h=>h
 |_::G,_,h,F,hl=>⟨h.1,sAll4 G h.2 F hl⟩
theorem f4{id:Nat}{F H:List (Nat×Value)}(G:List (Nat×Value))(th:List Nat)(Th:Nat→World→Prop){rs:List (Option Nat×Option Nat)}{a0:Act}{W:World}{sz:Nat}(hsz:SzIs a0 sz)(hdf:DfNil a0)(hl:LiveAll F a0)(h0:Th 0 W.drew)
  (hrs:(List.range ops.size).map (fun i=>(rankOf th i,boundOf ops th i))=rs)
  (hstep:StepsOk4 P ops Q F sz Th (G.map some) rs ops.toList (G.map some))
  (hend:∀a w,Th th.length w→SzIs a sz→DfNil a→LiveAll H a→Q .normal a w)
  (hG:G++F=H:=by simp only[List.cons_append,List.nil_append];rfl)
  (hm:P.follows .mixedOrders=true:=by kernel_rfl)(hck:flowOk ops ((G.map some).map sReads)=true:=by kernel_rfl)(hch:chainOk ops th=true:=by kernel_rfl)
  (hlk:liveOk ops (F.map (·.1))=true:=by kernel_rfl):(Code.region id ops true).wp P Q a0 W:=by
 subst hG;exact wp_flow4_use F _ th rs Th sz hm hck hch hrs hlk hsz hdf hl h0 hstep (fun a w hT hs hd hl hh=>hend a w hT hs hd (sAll4 G hh F hl))
end
theorem ent{P:Program}{f:FuncId}{fn:Func}{c:Code}(hf:P.funcs[f]?=some fn)(hname:(fn.name == "runtime.NumGoroutine")=false)(hb:fn.body=some c)(args:Array Value)(w:World):(callFunc f args).run P w=.ok (.enter f args) w:=by
 have h1:fn.name≠ "runtime.NumGoroutine" :=by simpa using hname
 simp[callFunc,hf,h1,hb,mark]
theorem sumP_b{V:Vs}{C:Cm}{look:Bool}{ch:ByteArray}{need:Int}(h:SingOk look V C ch need)(hl:V.P.length=V.V.length):0≤sumP V.V∧sumP V.V≤1000000000:=by
 have h1:=sumP_le V.V h.p;have h2:=h.n;rw[hl]at h2;omega
theorem TalRes.ret{look:Bool}{V:List Vl}{C:Cm}{ch:ByteArray}{need:Int}{e:Ending}(h:TalRes look V C ch need e):∃v,e=.returned v:=by
 rcases h with⟨rfl,_⟩|⟨rfl,_⟩|⟨⟨q,rfl⟩,_⟩ <;> exact⟨_,rfl⟩
structure LAt(V:Vs)(C:Cm)(gv gc:Nat)(w:World):Prop where
 bg:Blk w gv 157 V.cells
 iv:V.in_ w
 far:blkOf V.A≠some gv
 ic:C.at w gc
 tot:V.tot=0∨V.tot=sumP V.V
 kt:KTab w 1
 k0:1<w.heap.size
theorem LAt.after{V:Vs}{C:Cm}{gv gc:Nat}{w w':World}(h:LAt V C gv gc w)(hb:Below w.heap.size w w'):LAt V C gv gc w':=
 ⟨h.bg.after hb,h.iv.after hb,h.far,h.ic.after hb,h.tot,h.kt.after hb,Nat.lt_of_lt_of_le h.k0 hb.size⟩
theorem LAt.gb{V:Vs}{C:Cm}{gv gc:Nat}{w w':World}(h:LAt V C gv gc w)(hg:Blk w' gv 157 V.summed.cells)(k:GB w w' gv):LAt V.summed C gv gc w':=
 ⟨hg,(h.iv.gb h.bg V.noU8 h.far k).summed,h.far,h.ic.gb h.bg V.noU8 k,.inr rfl,h.kt.gbT h.bg V.noU32 k,Nat.lt_of_lt_of_le h.k0 k.size⟩
theorem c_vli(V:Vs)(C:Cm)(gv gc:Nat)(ch:ByteArray)(w:World)(hA:LAt V C gv gc w)(hok:SingOk true V C ch (sumP V.V*2 / 3)):
  Calls Tryz.prog 97 #[.string ch,.pointer (some ⟨gv,0,none⟩),.agg C.bid,.int .i64 C.ht,.pointer (some ⟨gc,0,none⟩),.bool false] w fun e w'=>TalRes true V.V C ch (sumP V.V*2 / 3) e∧Blk w' gv 157 V.summed.cells∧GB w w' gv:=by
 refine en (sz:=48) rfl rfl rfl fun a hs hd zl=>?_;have hB:=bz_refl w
 have hsb:=sumP_b hok hA.iv.len;refine wp_seq (wp_region_list ?_);refine ta hs hd zl ?_;intro g8 u hg8 hge8 hb;clear hs hd zl;intro a hs hd zl;replace hA:=hA.after hb;have hG:=gb_below hb (some gv);clear hb hB;refine wW ?_;clear hs hd zl;intro a hs hd zl;refine tk hs hd zl (fun K Q hK=>op_load_row 117 (.tmp 8) rfl g8 (sl zl 8) _ C.bid _ hg8 rfl rfl (by kernel_rfl) hK) ?_;clear hs hd zl;intro a hs hd zl;refine tc (c_vbc V C gv gc u hA.bg hA.ic (hok.at_ rfl)) hs hd zl ?_;rintro _ u1 ⟨rfl,hb⟩;refine⟨_,rfl,?_⟩;clear hs hd zl;intro a hs hd zl;replace hA:=hA.after hb;replace hG:=gb_then hG hb;clear hb hg8;refine wW ?_;clear hs hd zl;intro a hs hd zl;refine tc (c_tvp V gv u1 hA.bg hA.iv hok.p (by rw[← hA.iv.len];exact hok.n) hA.tot) hs hd zl ?_;rintro _ u2 ⟨rfl,hg2,hG2⟩;refine⟨_,rfl,?_⟩;clear hs hd zl;intro a hs hd zl;replace hA:=hA.gb hg2 hG2;replace hG:=gb_trans hG hG2;clear hg2 hG2;obtain⟨sp,hSP⟩:∃x,Is (sumP V.V) x:=is_self _;rw[hSP.out]at zl hsb;have e1:IntKind.i64.wrap (sp*2)=sp*2:=IntWalk.i64_in _ (by omega);have e2:Int.tdiv (sp*2) 3=sp*2 / 3:=Int.tdiv_eq_ediv_of_nonneg (by omega);have e3:IntKind.i64.wrap (sp*2 / 3)=sp*2 / 3:=IntWalk.i64_in _ (by omega);refine wW ?_;clear hs hd zl;intro a hs hd zl;refine tc (c_sbv V.summed gv C gc u2 hA.bg hA.iv hA.ic.blk) hs hd zl ?_;rintro _ u3 ⟨rfl,hb⟩;refine⟨_,rfl,?_⟩;clear hs hd zl;intro a hs hd zl;replace hA:=hA.after hb;replace hG:=gb_then hG hb;clear hb;refine wW ?_;clear hs hd zl;intro a hs hd zl;rw[hSP.out]at hok;refine tc (c_sing true V.summed C gv gc 122 123 ch (sp*2 / 3) u3 hA.bg hA.iv hA.ic ⟨hok.num,hok.cs,hok.p,hok.n,hok.at_,hok.ch,hok.need,hok.dist⟩ c_ig2 c_co2 (ent Tryz.func122 (by kernel_rfl) rfl) (ent Tryz.func123 (by kernel_rfl) rfl) hA.kt hA.k0) hs hd zl ?_;rintro _ u4 ⟨hT,hb⟩;obtain⟨v,rfl⟩:=hT.ret;refine⟨v,rfl,?_⟩;clear hs hd zl;intro a hs hd zl;replace hA:=hA.after hb;replace hG:=gb_then hG hb;refine wW ?_;clear hs hd zl;intro a hs hd zl;refine wp_ret ?_;(repeat first|refine then_ret ?_|refine inBlock_ret ?_);exact end_tmp rfl hd (sl zl 12) ⟨by rw[hSP.out];exact hT,hA.bg,hG⟩
theorem c_vl(V:Vs)(C:Cm)(gv gc:Nat)(ch:ByteArray)(w:World)(hA:LAt V C gv gc w)(hok:SingOk true V C ch (sumP V.V*2 / 3)):
  Calls Tryz.prog 86 #[.string ch,.pointer (some ⟨gv,0,none⟩),.agg C.bid,.int .i64 C.ht,.pointer (some ⟨gc,0,none⟩)] w fun e w'=>TalRes true V.V C ch (sumP V.V*2 / 3) e∧Blk w' gv 157 V.summed.cells∧GB w w' gv:=by
 refine en (sz:=17) rfl rfl rfl fun a hs hd zl=>?_;have hB:=bz_refl w
 refine wp_seq (wp_region_list ?_);refine ta hs hd zl ?_;intro g8 u hg8 hge8 hb;clear hs hd zl;intro a hs hd zl;replace hA:=hA.after hb;have hG:=gb_below hb (some gv);clear hb hB;refine wW ?_;clear hs hd zl;intro a hs hd zl;refine tk hs hd zl (fun K Q hK=>op_load_row 117 (.tmp 7) rfl g8 (sl zl 7) _ C.bid _ hg8 rfl rfl (by kernel_rfl) hK) ?_;clear hs hd zl;intro a hs hd zl;refine wW ?_;clear hs hd zl;intro a hs hd zl;refine tc (c_vli V C gv gc ch u hA hok) hs hd zl ?_;rintro _ u1 ⟨hT,hg1,hG1⟩;obtain⟨v,rfl⟩:=hT.ret;refine⟨v,rfl,?_⟩;clear hs hd zl;intro a hs hd zl;refine wW ?_;clear hs hd zl;intro a hs hd zl;refine wp_ret ?_;(repeat first|refine then_ret ?_|refine inBlock_ret ?_);exact end_tmp rfl hd (sl zl 10) ⟨hT,hg1,gb_trans hG hG1⟩
theorem c_vsl(V:Vs)(C:Cm)(gv gc:Nat)(ch:ByteArray)(w:World)(hA:LAt V C gv gc w)(hok:SingOk true V C ch (sumP V.V*2 / 3)):
  Calls Tryz.prog 74 #[.pointer (some ⟨gv,0,none⟩),.string ch,.agg C.bid,.int .i64 C.ht,.pointer (some ⟨gc,0,none⟩)] w fun e w'=>TalRes true V.V C ch (sumP V.V*2 / 3) e∧Blk w' gv 157 V.summed.cells∧GB w w' gv:=by
 refine en (sz:=17) rfl rfl rfl fun a hs hd zl=>?_;have hB:=bz_refl w
 refine wp_seq (wp_region_list ?_);refine ta hs hd zl ?_;intro g8 u hg8 hge8 hb;clear hs hd zl;intro a hs hd zl;replace hA:=hA.after hb;have hG:=gb_below hb (some gv);clear hb hB;refine wW ?_;clear hs hd zl;intro a hs hd zl;refine tk hs hd zl (fun K Q hK=>op_load_row 117 (.tmp 7) rfl g8 (sl zl 7) _ C.bid _ hg8 rfl rfl (by kernel_rfl) hK) ?_;clear hs hd zl;intro a hs hd zl;refine wW ?_;clear hs hd zl;intro a hs hd zl;refine tc (c_vl V C gv gc ch u hA hok) hs hd zl ?_;rintro _ u1 ⟨hT,hg1,hG1⟩;obtain⟨v,rfl⟩:=hT.ret;refine⟨v,rfl,?_⟩;clear hs hd zl;intro a hs hd zl;refine wW ?_;clear hs hd zl;intro a hs hd zl;refine wp_ret ?_;(repeat first|refine then_ret ?_|refine inBlock_ret ?_);exact end_tmp rfl hd (sl zl 10) ⟨hT,hg1,gb_trans hG hG1⟩
def ThT(V:Vs)(gv:Nat)(u:World):Nat→World→Prop
 |0,w=>w=u.drew
 |_+1,w=>Blk w gv 157 V.summed.cells∧GB u w gv
theorem c_vti(V:Vs)(C:Cm)(gv gc:Nat)(ch:ByteArray)(w:World)(hA:LAt V C gv gc w)(hn0:0<V.P.length)(hok:SingOk false V C ch (sumP V.V / 3)):
  Calls Tryz.prog 96 #[.string ch,.pointer (some ⟨gv,0,none⟩),.pointer (some ⟨gc,0,none⟩),.agg #[.int .u64 1,.int .u64 3],.bool false] w fun e w'=>TalRes false V.V C ch (sumP V.V / 3) e∧Blk w' gv 157 V.summed.cells∧GB w w' gv:=by
 refine en (sz:=61) rfl rfl rfl fun a hs hd zl=>?_;have hB:=bz_refl w
 have hsb:=sumP_b hok hA.iv.len;refine wp_seq (wp_region_list ?_);refine ta hs hd zl ?_;intro g8 u hg8 hge8 hb;clear hs hd zl;intro a hs hd zl;replace hA:=hA.after hb;have hG:=gb_below hb (some gv);clear hb hB;have c0:u.cell? ⟨g8,0,none⟩=some (.int .u64 1):=hg8.cell 0;have c1:u.cell? ⟨g8,1,none⟩=some (.int .u64 3):=hg8.cell 1;refine wW ?_;clear hs hd zl;intro a hs hd zl;have hnV:0<V.V.length:=by rw[← hA.iv.len];exact hn0
 have hpos:0<sumP V.V:=by
  obtain⟨v,l,e⟩:∃v l,V.V=v::l:=List.exists_cons_of_length_pos hnV;have h1:=hok.p v (by rw[e];exact List.mem_cons_self ..);have h2:=sumP_le l (fun x hx=>hok.p x (by rw[e];exact List.mem_cons_of_mem _ hx));rw[e];unfold sumP at *;simp only[List.map_cons,List.sum_cons];omega
 obtain⟨sp,hSP⟩:∃x,Is (sumP V.V) x:=is_self _;rw[hSP.out]at hsb hpos hok;have hdr:Below u.heap.size u u.drew:=(Below.refl _ _).drew;change Code.wp _ _ _ _ _;have hTup:∀c w,ThT V gv u c w→w.cell? ⟨g8,0,none⟩=some (.int .u64 1):=fun c w h=>by
  cases c with
  |zero=>have h:w=u.drew:=h;subst h;exact c0
  |succ c=>
   obtain⟨h1,h2⟩:=h;have:=hg8.gbT hA.bg (by decide) h2;exact this.cell 0
 have ew1:IntKind.i64.wrap 1=1:=IntWalk.i64_in _ (by omega);have ew3:IntKind.i64.wrap 3=3:=IntWalk.i64_in _ (by omega);have htv:∀(c:Nat) (w:World),ThT V gv u c w→(∀k,some 0=some k→c=k)→(∀k,(none:Option Nat)=some k→c≤k)→Calls Tryz.prog 115 #[.pointer (some ⟨gv,0,none⟩)] w fun e w'=>e=.returned (.int .i64 sp)∧ThT V gv u (after (some 0) c) w':=fun c w hT hr _=>by
  obtain rfl:c=0:=hr 0 rfl;have hT:w=u.drew:=hT;subst hT;have hA1:=hA.after hdr;refine(c_tvp V gv u.drew hA1.bg hA1.iv hok.p (by rw[← hA.iv.len];exact hok.n) hA1.tot).mono ?_;rintro e w' ⟨rfl,h1,h2⟩;exact And.intro (by rw[hSP.out]) (And.intro h1 (gb_trans (gb_below hdr (some gv)) h2))
 refine f4 [(27,_),(28,_),(29,_),(30,_),(31,_),(32,_),(26,_),(33,_),(34,_),(11,_),(12,_)] [1] (ThT V gv u) (rs:=[(none,some 0),(some 0,none),(none,none),(none,none),(none,none),(none,none),(none,none),(none,none),(none,none),(none,none),(none,none)]) hs hd zl rfl (by kernel_rfl)
  (by(simp only[List.map_cons,List.map_nil];(repeat' first|exact trivial|refine And.intro b4 ?_|refine And.intro (c4 (v:=.int .i64 sp) htv) ?_|refine And.intro (c4 (v:=.tuple #[.int .i64 sp,.bool false]) (fun c w hT _ _=>(c_safeMul sp w (by omega)).mono (by rintro e w' ⟨rfl,rfl⟩;exact⟨rfl,hT⟩))) ?_))) ?_
 clear hs hd zl hTup c0;rintro a u2 ⟨hg2,hG2⟩ hs hd zl;replace hg8:=hg8.gbT hA.bg (by decide) hG2;have c1:u2.cell? ⟨g8,1,none⟩=some (.int .u64 3):=hg8.cell 1;replace hA:=hA.gb hg2 hG2;replace hG:=gb_trans hG hG2;clear hg2 hG2 hdr;have e2:Int.tdiv sp 3=sp / 3:=Int.tdiv_eq_ediv_of_nonneg (by omega);have e3:IntKind.i64.wrap (sp / 3)=sp / 3:=IntWalk.i64_in _ (by omega);refine wW ?_;clear hs hd zl;intro a hs hd zl;refine tc (c_sbv V.summed gv C gc u2 hA.bg hA.iv hA.ic.blk) hs hd zl ?_;rintro _ u3 ⟨rfl,hb⟩;refine⟨_,rfl,?_⟩;clear hs hd zl;intro a hs hd zl;replace hA:=hA.after hb;replace hG:=gb_then hG hb;clear hb;refine wW ?_;clear hs hd zl;intro a hs hd zl;refine tc (c_sing false V.summed C gv gc 116 117 ch (sp / 3) u3 hA.bg hA.iv hA.ic ⟨hok.num,hok.cs,hok.p,hok.n,hok.at_,hok.ch,hok.need,hok.dist⟩ c_ig1 c_co1 (ent Tryz.func116 (by kernel_rfl) rfl) (ent Tryz.func117 (by kernel_rfl) rfl) hA.kt hA.k0) hs hd zl ?_;rintro _ u4 ⟨hT,hb⟩;obtain⟨v,rfl⟩:=hT.ret;refine⟨v,rfl,?_⟩;clear hs hd zl;intro a hs hd zl;replace hA:=hA.after hb;replace hG:=gb_then hG hb;refine wW ?_;clear hs hd zl;intro a hs hd zl;refine wp_ret ?_;(repeat first|refine then_ret ?_|refine inBlock_ret ?_);exact end_tmp rfl hd (sl zl 10) ⟨by rw[hSP.out];exact hT,hA.bg,hG⟩
theorem c_vt(V:Vs)(C:Cm)(gv gc:Nat)(ch:ByteArray)(w:World)(hA:LAt V C gv gc w)(hn0:0<V.P.length)(hok:SingOk false V C ch (sumP V.V / 3)):
  Calls Tryz.prog 85 #[.string ch,.pointer (some ⟨gv,0,none⟩),.pointer (some ⟨gc,0,none⟩),.agg #[.int .u64 1,.int .u64 3]] w fun e w'=>TalRes false V.V C ch (sumP V.V / 3) e∧Blk w' gv 157 V.summed.cells∧GB w w' gv:=by
 refine en (sz:=14) rfl rfl rfl fun a hs hd zl=>?_;have hB:=bz_refl w
 refine wp_seq (wp_region_list ?_);refine ta hs hd zl ?_;intro g8 u hg8 hge8 hb;clear hs hd zl;intro a hs hd zl;replace hA:=hA.after hb;have hG:=gb_below hb (some gv);clear hb hB;refine wW ?_;clear hs hd zl;intro a hs hd zl;refine tk hs hd zl (fun K Q hK=>op_load_row 84 (.tmp 7) rfl g8 (sl zl 7) _ #[.int .u64 1,.int .u64 3] _ hg8 rfl rfl (by kernel_rfl) hK) ?_;clear hs hd zl;intro a hs hd zl
 (repeat first|refine wp_seq ?_|refine wp_block ?_|refine wp_region_list ?_|(refine tx hs hd zl ?_;clear hs hd zl;intro a hs hd zl)|(refine tn hs hd zl ?_;clear hs hd zl;intro a hs hd zl)|refine ct zl ?_|refine cf zl ?_|refine wp_skip ?_)
 refine tc (c_vti V C gv gc ch u hA hn0 hok) hs hd zl ?_;rintro _ u1 ⟨hT,hg1,hG1⟩;obtain⟨v,rfl⟩:=hT.ret;refine⟨v,rfl,?_⟩;clear hs hd zl;intro a hs hd zl;refine wW ?_;clear hs hd zl;intro a hs hd zl;refine wp_ret ?_;(repeat first|refine then_ret ?_|refine inBlock_ret ?_);exact end_tmp rfl hd (sl zl 8) ⟨hT,hg1,gb_trans hG hG1⟩
theorem c_vst(V:Vs)(C:Cm)(gv gc:Nat)(ch:ByteArray)(w:World)(hA:LAt V C gv gc w)(hn0:0<V.P.length)(hok:SingOk false V C ch (sumP V.V / 3)):
  Calls Tryz.prog 73 #[.pointer (some ⟨gv,0,none⟩),.string ch,.pointer (some ⟨gc,0,none⟩),.agg #[.int .u64 1,.int .u64 3]] w fun e w'=>TalRes false V.V C ch (sumP V.V / 3) e∧Blk w' gv 157 V.summed.cells∧GB w w' gv:=by
 refine en (sz:=14) rfl rfl rfl fun a hs hd zl=>?_;have hB:=bz_refl w
 refine wp_seq (wp_region_list ?_);refine ta hs hd zl ?_;intro g8 u hg8 hge8 hb;clear hs hd zl;intro a hs hd zl;replace hA:=hA.after hb;have hG:=gb_below hb (some gv);clear hb hB;refine wW ?_;clear hs hd zl;intro a hs hd zl;refine tk hs hd zl (fun K Q hK=>op_load_row 84 (.tmp 7) rfl g8 (sl zl 7) _ #[.int .u64 1,.int .u64 3] _ hg8 rfl rfl (by kernel_rfl) hK) ?_;clear hs hd zl;intro a hs hd zl
 (repeat first|refine wp_seq ?_|refine wp_block ?_|refine wp_region_list ?_|(refine tx hs hd zl ?_;clear hs hd zl;intro a hs hd zl)|(refine tn hs hd zl ?_;clear hs hd zl;intro a hs hd zl)|refine ct zl ?_|refine cf zl ?_|refine wp_skip ?_)
 refine tc (c_vt V C gv gc ch u hA hn0 hok) hs hd zl ?_;rintro _ u1 ⟨hT,hg1,hG1⟩;obtain⟨v,rfl⟩:=hT.ret;refine⟨v,rfl,?_⟩;clear hs hd zl;intro a hs hd zl;refine wW ?_;clear hs hd zl;intro a hs hd zl;refine wp_ret ?_;(repeat first|refine then_ret ?_|refine inBlock_ret ?_);exact end_tmp rfl hd (sl zl 8) ⟨hT,hg1,gb_trans hG hG1⟩
def BadSig(look:Bool)(V:List Vl)(C:Cm)(ch:ByteArray):Prop:=∃(i j:Nat) (s:CS) (v:Vl),C.S[i]?=some s∧s.fl=2∧plc look V i s=some j∧V[j]?=some v∧s.sg.l≠psL v.ky.l (C.vsb s ch)
def EndTal(V:List Vl)(C:Cm)(ch:ByteArray)(e:Ending):Prop:=
 e=.returned .nilIface∧sumP V*2 / 3<tal true V C.S C.S.length∨(∃x,e=.returned (.iface 144 x))∧(tal true V C.S C.S.length≤sumP V*2 / 3∨BadSig true V C ch)
theorem NewAt.gb{s1 s0:Sh}{V:Vs}{g1 g0 gv g:Nat}{w w':World}{cs:Array Value}(h:NewAt s1 s0 V g1 g0 gv w)(hg:Blk w g 157 cs)(hc:NoU8 cs)(hc2:∀(i:Nat) (x:Int),cs[i]?≠some (Value.int .u32 x))(hn:gv≠g)(hA:blkOf V.A≠some g)(k:GB w w' g):NewAt s1 s0 V g1 g0 gv w':=
 ⟨h.g1.gbT hg (by decide) k,h.s1.gb hg hc k,h.g0.gbT hg (by decide) k,h.s0.gb hg hc k,h.gv.gbfar k (fun e=>hn e.symm),h.V.gb hg hc hA k,h.kt.gbT hg hc2 k,Nat.lt_of_lt_of_le h.k0 k.size⟩
theorem NewAt.lat{s1 s0:Sh}{V:Vs}{g1 g0 gv:Nat}{w:World}(h:NewAt s1 s0 V g1 g0 gv w)(hf:blkOf V.A≠some gv)(ht:V.tot=0∨V.tot=sumP V.V):LAt V s1.C gv s1.gc w:=⟨h.gv,h.V,hf,h.s1.hc,ht,h.kt,h.k0⟩
theorem c_va(s1 s0:Sh)(V:Vs)(g1 g0 gv:Nat)(per ts tn d:Int)(w:World)(hA:NewAt s1 s0 V g1 g0 gv w)(hf:blkOf V.A≠some gv)(htot:V.tot=0∨V.tot=sumP V.V)(hwf:s1.wf)(hn0:s0.H.num)(hV:VlsOk V)(hnew:NewOk s1 s0 V.V ts tn d)(hts:0≤ts∧ts≤9000000000000000000)(htn:0≤tn∧tn<1000000000)(hd1:0≤d∧d≤9000000000000000000)
  (hper:0≤per∧per≤9000000000000000000)(hexp:laterB (addS (s0.H.sec+62135596800) s0.H.ns per) (addN s0.H.ns per) ts tn=true)(hht:s1.H.ht=s0.H.ht+1)(hnx:(s1.H.hh 2).l=(s0.H.hh 3).l)(hok:SingOk true V s1.C s0.H.ch (sumP V.V*2 / 3)):
  Calls Tryz.prog 66 #[.pointer (some ⟨g0,0,none⟩),.pointer (some ⟨g1,0,none⟩),.pointer (some ⟨gv,0,none⟩),.int .i64 per,.agg #[.int .i64 ts,.int .i32 tn],.int .i64 d] w fun e w'=>EndTal V.V s1.C s0.H.ch e∧GB w w' gv:=by
 refine en (sz:=110) rfl rfl rfl fun a hs hd zl=>?_;have hB:=bz_refl w
 have c1:w.cell? ⟨g1,0,none⟩=some (.pointer (some ⟨s1.gh,0,none⟩)):=hA.g1.cell 0;have c2:w.cell? ⟨g1,1,none⟩=some (.pointer (some ⟨s1.gc,0,none⟩)):=hA.g1.cell 1;have c0:w.cell? ⟨g0,0,none⟩=some (.pointer (some ⟨s0.gh,0,none⟩)):=hA.g0.cell 0;obtain⟨t0,hT0⟩:∃n,Is s0.H.ht n:=is_self _;have HHT:=Is.hid hht;have HNX:=Is.hid hnx;have hb1:=hwf.num.ht;rw[hht,hT0.out]at hb1;have hb0:=hn0.ht;rw[hT0.out]at hb0;have d1:w.cell? ⟨s1.gh,3,none⟩=some (.int .i64 (t0+1)):=by rw[← hT0.out,← hht];exact hA.s1.hb.cell 3
 have d0:w.cell? ⟨s0.gh,3,none⟩=some (.int .i64 t0):=by rw[← hT0.out];exact hA.s0.hb.cell 3
 have f0:w.cell? ⟨s0.gh,2,none⟩=some (.string s0.H.ch):=hA.s0.hb.cell 2;have k1:w.cell? ⟨s1.gh,11,none⟩=some (.slice (s1.H.hh 2).A (s1.H.hh 2).l.length (s1.H.hh 2).c):=hA.s1.hb.cell 11;have k0:w.cell? ⟨s0.gh,12,none⟩=some (.slice (s0.H.hh 3).A (s0.H.hh 3).l.length (s0.H.hh 3).c):=hA.s0.hb.cell 12;have ew:IntKind.i64.wrap (t0+1)=t0+1:=IntWalk.i64_in _ (by omega);have e1:(t0+1 != t0+1)=false:=by simp
 clear hht hnx;have l1:=hA.g1.lt;have l0:=hA.g0.lt;have m1:=hA.s1.hb.lt;have m0:=hA.s0.hb.lt;have m2:=hA.s1.hc.blk.lt;refine wp_seq (wp_region_list ?_);refine ta hs hd zl ?_;intro g10 u hg10 hge10 hb;clear hs hd zl;intro a hs hd zl;replace hB:=bz_then hB hb;(try clear hup);have hup:=bup hB;clear hb;refine wW ?_;clear hs hd zl;intro a hs hd zl
 (try change Code.wp _ _ _ _ _);refine fx [(16,_),(17,_),(18,_),(19,_),(20,_),(21,_),(22,_),(23,_),(24,_),(25,_),(26,_),(27,_),(28,_),(29,_),(30,_)] 15 hs hd zl ?_;clear hs hd zl;intro a u hb hs hd zl
 replace hg10:=hg10.after hb;replace hB:=bz_then hB hb;(try clear hup);have hup:=bup hB;clear hb;replace zl:=kp [0,1,2,3,5,10,12,22,30] zl;refine wW ?_;clear hs hd zl;intro a hs hd zl;refine tk hs hd zl (fun K Q hK=>op_load_row 80 (.tmp 10) rfl g10 (sl zl 10) _ #[.int .i64 ts,.int .i32 tn] _ hg10 rfl rfl (by kernel_rfl) hK) ?_;clear hs hd zl;intro a hs hd zl;refine tc (c_hExp s0 g0 per ts tn u (hA.g0.after hB) (hA.s0.after hB) hn0 hper) hs hd zl ?_;rintro _ u ⟨rfl,hb⟩;refine⟨_,rfl,?_⟩;rw[hexp];clear hs hd zl;intro a hs hd zl;replace hg10:=hg10.after hb;replace hB:=bz_then hB hb;(try clear hup);have hup:=bup hB;clear hb;have HEX:=Is.hid hexp;clear hexp ew e1;refine wW ?_;clear hs hd zl;intro a hs hd zl;refine tk hs hd zl (fun K Q hK=>op_load_row 80 (.tmp 10) rfl g10 (sl zl 10) _ #[.int .i64 ts,.int .i32 tn] _ hg10 rfl rfl (by kernel_rfl) hK) ?_;clear hs hd zl;intro a hs hd zl;refine wW ?_;clear hs hd zl;intro a hs hd zl;refine tc (c_vnh s1 s0 V g1 g0 gv ts tn d u (hA.after hB) hwf hn0 hV hnew hts htn hd1) hs hd zl ?_;rintro _ u ⟨he,hb⟩;rcases he with⟨-,rfl⟩|⟨hc,-⟩
 case inr=>have:=HHT.out;omega
 refine⟨_,rfl,?_⟩;clear hs hd zl;intro a hs hd zl;replace hB:=bz_then hB hb;(try clear hup);have hup:=bup hB;clear hb;replace zl:=kp [0,1,2,12,54] zl;refine wW ?_;clear hs hd zl;intro a hs hd zl;clear hg10
 (try change Code.wp _ _ _ _ _);refine fx [(60,_),(61,_),(62,_),(63,_),(64,_),(65,_),(66,_),(67,_),(68,_),(69,_),(70,_),(71,_),(72,_),(73,_)] 14 hs hd zl ?_;clear hs hd zl;intro a u hb hs hd zl
 replace hB:=bz_then hB hb;(try clear hup);have hup:=bup hB;clear hb;have hk1:=(hA.s1.hk.hh 2 (by decide)).after hB;have hk0:=(hA.s0.hk.hh 3 (by decide)).after hB;have e3:decide ((s1.H.hh 2).l=(s0.H.hh 3).l)=true:=decide_eq_true HNX.out;refine tc (c_bEqual (s1.H.hh 2).A (s0.H.hh 3).A (s1.H.hh 2).c (s0.H.hh 3).c (s1.H.hh 2).l (s0.H.hh 3).l u hk1.fm hk1.bs hk1.b8 hk0.fm hk0.bs hk0.b8) hs hd zl ?_;rintro _ u ⟨rfl,rfl⟩;refine⟨_,rfl,?_⟩;rw[e3];clear hs hd zl;intro a hs hd zl;clear e3 hk1 hk0 k1 k0;refine wW ?_;clear hs hd zl;intro a hs hd zl;replace zl:=kp [0,1,2,12] zl;have hpt:∀u,Below w.heap.size w u→∀(o:Oper) (a:Act) (K:Act→World→Prop) (Q:Exit→Act→World→Prop) (x:Operand),o.op=.load 117 x→a.eval x=.pointer (some ⟨s1.gc,2,none⟩)→K (a.put o.dst (.agg s1.C.bid)) u→o.wp Tryz.prog a u K Q:=fun u hB o a K Q x ho hx hK=>
  op_load_part 117 x ho s1.gc 2 hx _ _ s1.C.bid _ (hA.s1.hc.after hB).blk (show(2+3:Nat)≤7 by decide) rfl rfl (by kernel_rfl) rfl hK
 (try change Code.wp _ _ _ _ _);refine fx [(78,_),(79,_),(80,_),(81,_),(82,_),(83,_),(84,_),(85,_),(86,_),(87,_),(88,_),(89,_),(90,_),(91,_),(92,_),(93,_),(94,_),(95,_),(96,_),(97,_),(98,_),(99,_),(100,_),(101,_),(102,_),(103,_)] 26 hs hd zl ?_ (hstep:=by(simp only[List.map_cons,List.map_nil];(repeat' first|exact trivial|refine And.intro (sP bo) ?_|refine And.intro (sY bo) ?_|refine And.intro sN ?_|refine And.intro (sP (bk (v:=.agg s1.C.bid) (fun a u1 hb zl hd K Q hK=>hpt u1 (bz_then hB hb) _ a K Q (.tmp 91) rfl (vD hd 13) hK))) ?_)));clear hs hd zl;intro a u hb hs hd zl
 replace hB:=bz_then hB hb;(try clear hup);have hup:=bup hB;clear hb;have hcht:s1.C.ht=t0+1:=by rw[hwf.cht,HHT.out,hT0.out]
 rw[← hcht]at zl;clear hcht;have hG:=gb_below hB (some gv);refine tc (c_vsl V s1.C gv s1.gc s0.H.ch u ((hA.after hB).lat hf htot) hok) hs hd zl ?_;rintro _ u2 ⟨hT,-,hG2⟩;replace hG:=gb_trans hG hG2;rcases hT with⟨rfl,h⟩|⟨rfl,h⟩|⟨⟨q,rfl⟩,h⟩
 ·refine⟨_,rfl,?_⟩;clear hs hd zl;intro a hs hd zl;clear hup hpt;refine wW ?_;clear hs hd zl;intro a hs hd zl;refine wp_ret ?_;(repeat first|refine then_ret ?_|refine inBlock_ret ?_);exact end_tmp rfl hd (sl zl 12) ⟨.inl ⟨rfl,h⟩,hG⟩
 ·refine⟨_,rfl,?_⟩;clear hs hd zl;intro a hs hd zl;clear hup hpt;have H1:=Is.hid h;clear h;refine wW ?_;clear hs hd zl;intro a hs hd zl;refine wp_ret ?_;(repeat first|refine then_ret ?_|refine inBlock_ret ?_);exact end_tmp rfl hd (sl zl 12) ⟨.inr ⟨⟨_,rfl⟩,.inl H1.out⟩,hG⟩
 ·refine⟨_,rfl,?_⟩;clear hs hd zl;intro a hs hd zl;clear hup hpt;have H1:=Is.hid h;clear h;refine wW ?_;clear hs hd zl;intro a hs hd zl;refine wp_ret ?_;(repeat first|refine then_ret ?_|refine inBlock_ret ?_);exact end_tmp rfl hd (sl zl 12) ⟨.inr ⟨⟨_,rfl⟩,.inr H1.out⟩,hG⟩
def EndFar(X Y:List Vl)(C:Cm)(ch:ByteArray)(t1 t0:Int)(e:Ending):Prop:=
 t1≤t0∧(∃x,e=.returned (.iface 144 x))∨
 t0<t1∧(sumP X / 3<tal false X C.S C.S.length∧EndTal Y C ch e∨tal false X C.S C.S.length≤sumP X / 3∧(∃x,e=.returned (.iface 148 x))∨
  BadSig false X C ch∧∃q:Addr,e=.returned (.iface 166 (.pointer (some q))))
theorem c_vna(s1 s0:Sh)(X V:Vs)(g1 g0 gx gv:Nat)(per ts tn d:Int)(w:World)(hA:NewAt s1 s0 V g1 g0 gv w)(hX:LAt X s1.C gx s1.gc w)(hf:blkOf V.A≠some gv)(htot:V.tot=0∨V.tot=sumP V.V)(hxy:gv≠gx)(hfx:blkOf V.A≠some gx)(hwf:s1.wf)(hn0:s0.H.num)(hV:VlsOk V)(hX0:0<X.P.length)(hnew:NewOk s1 s0 V.V ts tn d)(hts:0≤ts∧ts≤9000000000000000000)(htn:0≤tn∧tn<1000000000)(hd1:0≤d∧d≤9000000000000000000)
  (hper:0≤per∧per≤9000000000000000000)(hexp:laterB (addS (s0.H.sec+62135596800) s0.H.ns per) (addN s0.H.ns per) ts tn=true)(hht:s1.H.ht≠s0.H.ht+1)(hlim:s0.H.ht≤1000000)(hok:SingOk true V s1.C s0.H.ch (sumP V.V*2 / 3))(hokx:SingOk false X s1.C s0.H.ch (sumP X.V / 3)):
  Calls Tryz.prog 65 #[.pointer (some ⟨g0,0,none⟩),.pointer (some ⟨gx,0,none⟩),.pointer (some ⟨g1,0,none⟩),.pointer (some ⟨gv,0,none⟩),.int .i64 per,.agg #[.int .i64 ts,.int .i32 tn],.int .i64 d,.agg #[.int .u64 1,.int .u64 3]] w fun e w'=>EndFar X.V V.V s1.C s0.H.ch s1.H.ht s0.H.ht e∧∃u,GB w u gx∧GB u w' gv:=by
 refine en (sz:=122) rfl rfl rfl fun a hs hd zl=>?_;have hB:=bz_refl w
 have c1:w.cell? ⟨g1,0,none⟩=some (.pointer (some ⟨s1.gh,0,none⟩)):=hA.g1.cell 0;have c2:w.cell? ⟨g1,1,none⟩=some (.pointer (some ⟨s1.gc,0,none⟩)):=hA.g1.cell 1;have c0:w.cell? ⟨g0,0,none⟩=some (.pointer (some ⟨s0.gh,0,none⟩)):=hA.g0.cell 0;obtain⟨t0,hT0⟩:∃n,Is s0.H.ht n:=is_self _;obtain⟨t1,hT1⟩:∃n,Is s1.H.ht n:=is_self _;rw[hT0.out,hT1.out]at hht;have hb0:=hn0.ht;rw[hT0.out]at hb0 hlim;have d1:w.cell? ⟨s1.gh,3,none⟩=some (.int .i64 t1):=by rw[← hT1.out];exact hA.s1.hb.cell 3
 have d0:w.cell? ⟨s0.gh,3,none⟩=some (.int .i64 t0):=by rw[← hT0.out];exact hA.s0.hb.cell 3
 have f0:w.cell? ⟨s0.gh,2,none⟩=some (.string s0.H.ch):=hA.s0.hb.cell 2;have ew:IntKind.i64.wrap (t0+1)=t0+1:=IntWalk.i64_in _ (by omega);have e1:(t1 == t0+1)=false:=by rw[beq_eq_false_iff_ne];exact hht
 have l1:=hA.g1.lt;have l0:=hA.g0.lt;have m1:=hA.s1.hb.lt;have m0:=hA.s0.hb.lt;have m2:=hA.s1.hc.blk.lt;refine wp_seq (wp_region_list ?_);refine ta hs hd zl ?_;intro g10 u hg10 hge10 hb;clear hs hd zl;intro a hs hd zl;replace hB:=bz_then hB hb;(try clear hup);have hup:=bup hB;clear hb;refine ta hs hd zl ?_;intro g15 u hg15 hge15 hb;clear hs hd zl;intro a hs hd zl;replace hg10:=hg10.after hb;replace hB:=bz_then hB hb;(try clear hup);have hup:=bup hB;clear hb;refine wW ?_;clear hs hd zl;intro a hs hd zl
 (try change Code.wp _ _ _ _ _);refine fx [(22,_),(23,_),(24,_),(25,_),(26,_),(27,_),(28,_),(29,_),(30,_),(31,_),(32,_),(33,_),(34,_),(35,_),(36,_)] 15 hs hd zl ?_;clear hs hd zl;intro a u hb hs hd zl
 replace hg10:=hg10.after hb;replace hg15:=hg15.after hb;replace hB:=bz_then hB hb;(try clear hup);have hup:=bup hB;clear hb;replace zl:=kp [0,1,2,3,4,6,13,15,16,28,36] zl;refine wW ?_;clear hs hd zl;intro a hs hd zl;refine tk hs hd zl (fun K Q hK=>op_load_row 80 (.tmp 13) rfl g10 (sl zl 13) _ #[.int .i64 ts,.int .i32 tn] _ hg10 rfl rfl (by kernel_rfl) hK) ?_;clear hs hd zl;intro a hs hd zl;refine tc (c_hExp s0 g0 per ts tn u (hA.g0.after hB) (hA.s0.after hB) hn0 hper) hs hd zl ?_;rintro _ u ⟨rfl,hb⟩;refine⟨_,rfl,?_⟩;rw[hexp];clear hs hd zl;intro a hs hd zl;replace hg10:=hg10.after hb;replace hg15:=hg15.after hb;replace hB:=bz_then hB hb;(try clear hup);have hup:=bup hB;clear hb;clear hexp ew e1;refine wW ?_;clear hs hd zl;intro a hs hd zl;refine tk hs hd zl (fun K Q hK=>op_load_row 80 (.tmp 13) rfl g10 (sl zl 13) _ #[.int .i64 ts,.int .i32 tn] _ hg10 rfl rfl (by kernel_rfl) hK) ?_;clear hs hd zl;intro a hs hd zl;refine wW ?_;clear hs hd zl;intro a hs hd zl;refine tc (c_vnh s1 s0 V g1 g0 gv ts tn d u (hA.after hB) hwf hn0 hV hnew hts htn hd1) hs hd zl ?_;rintro _ u ⟨he,hb⟩;rcases he with⟨hlt,rfl⟩|⟨hle,q,rfl⟩
 case inr=>
  refine⟨_,rfl,?_⟩;clear hs hd zl;intro a hs hd zl;have HLE:=Is.hid hle;clear hle hg10 hg15;replace hB:=bz_then hB hb;(try clear hup);have hup:=bup hB;clear hb;refine wW ?_;clear hs hd zl;intro a hs hd zl;refine wp_ret ?_;(repeat first|refine then_ret ?_|refine inBlock_ret ?_);exact end_tmp rfl hd (sl zl 16) ⟨.inl ⟨HLE.out,_,rfl⟩,_,gb_below hB _,gb_refl u _⟩
 refine⟨_,rfl,?_⟩;clear hs hd zl;intro a hs hd zl;have HLT:=Is.hid hlt;clear hlt hg10;replace hg15:=hg15.after hb;replace hB:=bz_then hB hb;(try clear hup);have hup:=bup hB;clear hb;replace zl:=kp [0,1,2,3,15,16,60] zl;have l15:=hg15.lt;refine wW ?_;clear hs hd zl;intro a hs hd zl
 (try change Code.wp _ _ _ _ _);refine fx [(66,_),(67,_),(68,_),(69,_),(70,_),(71,_),(72,_),(73,_),(74,_),(75,_),(76,_),(77,_),(78,_)] 13 hs hd zl ?_ (hstep:=by(simp only[List.map_cons,List.map_nil];(repeat' first|exact trivial|refine And.intro (sP bo) ?_|refine And.intro (sY bo) ?_|refine And.intro sN ?_|refine And.intro (sP (bk (v:=.agg #[.int .u64 1,.int .u64 3]) (fun a u1 hb zl hd K Q hK=>op_load_row 84 (.tmp 15) rfl g15 (sl zl 15) _ #[.int .u64 1,.int .u64 3] _ (hg15.after hb) rfl rfl (by kernel_rfl) hK))) ?_)));clear hs hd zl;intro a u hb hs hd zl
 replace hB:=bz_then hB hb;(try clear hup);have hup:=bup hB;clear hb;refine tc (c_vst X s1.C gx s1.gc s0.H.ch u (hX.after hB) hX0 hokx) hs hd zl ?_;rintro _ u2 ⟨hT,hg2,hG2⟩;have hA2:=(hA.after hB).gb (hX.after hB).bg X.noU8 X.noU32 hxy hfx hG2;have hG:=gb_trans (gb_below hB (some gx)) hG2;clear hup hg15 hge10 hge15 l15 c1 c2 c0 d1 d0 f0;clear hB;have hB:=bz_refl u2;rcases hT with⟨rfl,h⟩|⟨rfl,h⟩|⟨⟨q,rfl⟩,h⟩
 ·refine⟨_,rfl,?_⟩;clear hs hd zl;intro a hs hd zl;have H1:=Is.hid h;clear h;refine wW ?_;clear hs hd zl;intro a hs hd zl;replace zl:=kp [0,2,3,16] zl;have c1:u2.cell? ⟨g1,0,none⟩=some (.pointer (some ⟨s1.gh,0,none⟩)):=hA2.g1.cell 0;have c2:u2.cell? ⟨g1,1,none⟩=some (.pointer (some ⟨s1.gc,0,none⟩)):=hA2.g1.cell 1;have c0:u2.cell? ⟨g0,0,none⟩=some (.pointer (some ⟨s0.gh,0,none⟩)):=hA2.g0.cell 0;have d1:u2.cell? ⟨s1.gh,3,none⟩=some (.int .i64 t1):=by rw[← hT1.out];exact hA2.s1.hb.cell 3
  have f0:u2.cell? ⟨s0.gh,2,none⟩=some (.string s0.H.ch):=hA2.s0.hb.cell 2;replace l1:=hA2.g1.lt;replace l0:=hA2.g0.lt;replace m1:=hA2.s1.hb.lt;replace m0:=hA2.s0.hb.lt;replace m2:=hA2.s1.hc.blk.lt;have hpt:∀u,Below u2.heap.size u2 u→∀(o:Oper) (a:Act) (K:Act→World→Prop) (Q:Exit→Act→World→Prop) (x:Operand),o.op=.load 117 x→a.eval x=.pointer (some ⟨s1.gc,2,none⟩)→K (a.put o.dst (.agg s1.C.bid)) u→o.wp Tryz.prog a u K Q:=fun u hB o a K Q x ho hx hK=>
   op_load_part 117 x ho s1.gc 2 hx _ _ s1.C.bid _ (hA2.s1.hc.after hB).blk (show(2+3:Nat)≤7 by decide) rfl rfl (by kernel_rfl) rfl hK
  (try change Code.wp _ _ _ _ _);refine fx [(90,_),(91,_),(92,_),(93,_),(94,_),(95,_),(96,_),(97,_),(98,_),(99,_),(100,_),(101,_),(102,_),(103,_),(104,_),(105,_),(106,_),(107,_),(108,_),(109,_),(110,_),(111,_),(112,_),(113,_),(114,_),(115,_)] 26 hs hd zl ?_ (hstep:=by(simp only[List.map_cons,List.map_nil];(repeat' first|exact trivial|refine And.intro (sP bo) ?_|refine And.intro (sY bo) ?_|refine And.intro sN ?_|refine And.intro (sP (bk (v:=.agg s1.C.bid) (fun a u1 hb zl hd K Q hK=>hpt u1 (bz_then hB hb) _ a K Q (.tmp 103) rfl (vD hd 13) hK))) ?_)));clear hs hd zl;intro a u hb hs hd zl
  replace hB:=bz_then hB hb;(try clear hup);have hup:=bup hB;clear hb;have hcht:s1.C.ht=t1:=by rw[hwf.cht,hT1.out]
  rw[← hcht]at zl;clear hcht;refine tc (c_vsl V s1.C gv s1.gc s0.H.ch u ((hA2.after hB).lat hf htot) hok) hs hd zl ?_;rintro _ u3 ⟨hT,-,hG3⟩;have hG4:=gb_trans (gb_below hB (some gv)) hG3;clear hup hpt;rcases hT with⟨rfl,h⟩|⟨rfl,h⟩|⟨⟨q,rfl⟩,h⟩
  ·refine⟨_,rfl,?_⟩;clear hs hd zl;intro a hs hd zl;have H2:=Is.hid h;clear h;refine wW ?_;clear hs hd zl;intro a hs hd zl;refine wp_ret ?_;(repeat first|refine then_ret ?_|refine inBlock_ret ?_);exact end_tmp rfl hd (sl zl 16) ⟨.inr ⟨HLT.out,.inl ⟨H1.out,.inl ⟨rfl,H2.out⟩⟩⟩,u2,hG,hG4⟩
  ·refine⟨_,rfl,?_⟩;clear hs hd zl;intro a hs hd zl;have H2:=Is.hid h;clear h;refine wW ?_;clear hs hd zl;intro a hs hd zl;refine wp_ret ?_;(repeat first|refine then_ret ?_|refine inBlock_ret ?_);exact end_tmp rfl hd (sl zl 16) ⟨.inr ⟨HLT.out,.inl ⟨H1.out,.inr ⟨⟨_,rfl⟩,.inl H2.out⟩⟩⟩,u2,hG,hG4⟩
  ·refine⟨_,rfl,?_⟩;clear hs hd zl;intro a hs hd zl;have H2:=Is.hid h;clear h;refine wW ?_;clear hs hd zl;intro a hs hd zl;refine wp_ret ?_;(repeat first|refine then_ret ?_|refine inBlock_ret ?_);exact end_tmp rfl hd (sl zl 16) ⟨.inr ⟨HLT.out,.inl ⟨H1.out,.inr ⟨⟨_,rfl⟩,.inr H2.out⟩⟩⟩,u2,hG,hG4⟩
 ·refine⟨_,rfl,?_⟩;clear hs hd zl;intro a hs hd zl;have H1:=Is.hid h;clear h;refine wW ?_;clear hs hd zl;intro a hs hd zl;refine tas (cs:=#[.int .i64 _,.int .i64 _]) hs hd zl (fun v hv=>by simp only[List.mem_cons,List.not_mem_nil,or_false]at hv;rcases hv with rfl|rfl <;> rfl) ?_;intro g19 u3 hg19 hge19 hb;clear hs hd zl;intro a hs hd zl
  (repeat first|refine wp_seq ?_|refine wp_block ?_|refine wp_region_list ?_|(refine tx hs hd zl ?_;clear hs hd zl;intro a hs hd zl)|(refine tn hs hd zl ?_;clear hs hd zl;intro a hs hd zl)|refine ct zl ?_|refine cf zl ?_|refine wp_skip ?_)
  refine tk hs hd zl (fun K Q hK=>op_load_row 146 (.tmp 19) rfl g19 (sl zl 19) _ _ _ hg19 rfl rfl (by kernel_rfl) hK) ?_;clear hs hd zl;intro a hs hd zl;refine wW ?_;clear hs hd zl;intro a hs hd zl;refine wp_ret ?_;(repeat first|refine then_ret ?_|refine inBlock_ret ?_);exact end_tmp rfl hd (sl zl 16) ⟨.inr ⟨HLT.out,.inr (.inl ⟨H1.out,_,rfl⟩)⟩,u2,hG,gb_below hb _⟩
 ·refine⟨_,rfl,?_⟩;clear hs hd zl;intro a hs hd zl;have H1:=Is.hid h;clear h;refine wW ?_;clear hs hd zl;intro a hs hd zl;refine wp_ret ?_;(repeat first|refine then_ret ?_|refine inBlock_ret ?_);exact end_tmp rfl hd (sl zl 16) ⟨.inr ⟨HLT.out,.inr (.inr ⟨H1.out,q,rfl⟩)⟩,u2,hG,gb_refl u2 _⟩
theorem c_out0(w:World):Calls Tryz.prog 51 #[.nilIface] w fun e w'=>e=.returned (.int .i64 0)∧Below w.heap.size w w':=by
 refine en (sz:=14) rfl rfl rfl fun a hs hd zl=>?_;have hB:=bz_refl w
 refine wW ?_;clear hs hd zl;intro a hs hd zl;refine wp_ret ?_;(repeat first|refine then_ret ?_|refine inBlock_ret ?_);exact end_tmp rfl hd (sl zl 2) ⟨rfl,hB⟩
theorem c_out2(x:Value)(w:World):Calls Tryz.prog 51 #[.iface 144 x] w fun e w'=>e=.returned (.int .i64 2)∧Below w.heap.size w w':=by
 refine en (sz:=14) rfl rfl rfl fun a hs hd zl=>?_;have hB:=bz_refl w
 refine wW ?_;clear hs hd zl;intro a hs hd zl;refine wp_ret ?_;(repeat first|refine then_ret ?_|refine inBlock_ret ?_);exact end_tmp rfl hd (sl zl 2) ⟨rfl,hB⟩
theorem c_out3(x:Value)(w:World):Calls Tryz.prog 51 #[.iface 148 x] w fun e w'=>e=.returned (.int .i64 3)∧Below w.heap.size w w':=by
 refine en (sz:=14) rfl rfl rfl fun a hs hd zl=>?_;have hB:=bz_refl w
 refine wW ?_;clear hs hd zl;intro a hs hd zl;refine wp_ret ?_;(repeat first|refine then_ret ?_|refine inBlock_ret ?_);exact end_tmp rfl hd (sl zl 2) ⟨rfl,hB⟩
theorem c_out4(q:Addr)(w:World):Calls Tryz.prog 51 #[.iface 166 (.pointer (some q))] w fun e w'=>e=.returned (.int .i64 4)∧Below w.heap.size w w':=by
 refine en (sz:=14) rfl rfl rfl fun a hs hd zl=>?_;have hB:=bz_refl w
 refine wW ?_;clear hs hd zl;intro a hs hd zl;refine wp_ret ?_;(repeat first|refine then_ret ?_|refine inBlock_ret ?_);exact end_tmp rfl hd (sl zl 2) ⟨rfl,hB⟩
def OutTal(V:List Vl)(C:Cm)(ch:ByteArray)(r:Int):Prop:=
 r=0∧sumP V*2 / 3<tal true V C.S C.S.length∨r=2∧(tal true V C.S C.S.length≤sumP V*2 / 3∨BadSig true V C ch)
def OutFar(X Y:List Vl)(C:Cm)(ch:ByteArray)(t1 t0:Int)(r:Int):Prop:=
 t1≤t0∧r=2∨t0<t1∧(sumP X / 3<tal false X C.S C.S.length∧OutTal Y C ch r∨tal false X C.S C.S.length≤sumP X / 3∧r=3∨BadSig false X C ch∧r=4)
theorem c_outTal{V:List Vl}{C:Cm}{ch:ByteArray}{v:Value}(h:EndTal V C ch (.returned v))(w:World):Calls Tryz.prog 51 #[v] w fun e w'=>∃r,e=.returned (.int .i64 r)∧OutTal V C ch r∧Below w.heap.size w w':=by
 rcases h with⟨h1,h⟩|⟨⟨x,h1⟩,h⟩
 ·injection h1 with h1;subst h1;exact(c_out0 w).mono fun e w' he=>⟨0,he.1,.inl ⟨rfl,h⟩,he.2⟩
 ·injection h1 with h1;subst h1;exact(c_out2 x w).mono fun e w' he=>⟨2,he.1,.inr ⟨rfl,h⟩,he.2⟩
theorem c_outFar{X Y:List Vl}{C:Cm}{ch:ByteArray}{t1 t0:Int}{v:Value}(h:EndFar X Y C ch t1 t0 (.returned v))(w:World):Calls Tryz.prog 51 #[v] w fun e w'=>∃r,e=.returned (.int .i64 r)∧OutFar X Y C ch t1 t0 r∧Below w.heap.size w w':=by
 rcases h with⟨h0,x,h1⟩|⟨h0,⟨h1,h⟩|⟨h,x,h1⟩|⟨h,q,h1⟩⟩
 ·injection h1 with h1;subst h1;exact(c_out2 x w).mono fun e w' he=>⟨2,he.1,.inl ⟨h0,rfl⟩,he.2⟩
 ·exact(c_outTal h w).mono fun e w' ⟨r,h2,h3,h4⟩=>⟨r,h2,.inr ⟨h0,.inl ⟨h1,h3⟩⟩,h4⟩
 ·injection h1 with h1;subst h1;exact(c_out3 x w).mono fun e w' he=>⟨3,he.1,.inr ⟨h0,.inr (.inl ⟨h,rfl⟩)⟩,he.2⟩
 ·injection h1 with h1;subst h1;exact(c_out4 q w).mono fun e w' he=>⟨4,he.1,.inr ⟨h0,.inr (.inr ⟨h,rfl⟩)⟩,he.2⟩
theorem EndTal.ret{V:List Vl}{C:Cm}{ch:ByteArray}{e:Ending}(h:EndTal V C ch e):∃v,e=.returned v:=by
 rcases h with⟨rfl,_⟩|⟨⟨x,rfl⟩,_⟩ <;> exact⟨_,rfl⟩
theorem EndFar.ret{X Y:List Vl}{C:Cm}{ch:ByteArray}{t1 t0:Int}{e:Ending}(h:EndFar X Y C ch t1 t0 e):∃v,e=.returned v:=by
 rcases h with⟨_,x,rfl⟩|⟨_,⟨_,h⟩|⟨_,x,rfl⟩|⟨_,q,rfl⟩⟩
 ·exact⟨_,rfl⟩
 ·exact h.ret
 ·exact⟨_,rfl⟩
 ·exact⟨_,rfl⟩
structure ChkOk(s1 s0:Sh)(X V:Vs)(g1 g0 gx gv:Nat)(per ts tn d:Int)(w:World):Prop where
 hA:NewAt s1 s0 V g1 g0 gv w
 hX:LAt X s1.C gx s1.gc w
 hf:blkOf V.A≠some gv
 htot:V.tot=0∨V.tot=sumP V.V
 hxy:gv≠gx
 hfx:blkOf V.A≠some gx
 hwf:s1.wf
 hn0:s0.H.num
 hV:VlsOk V
 hX0:0<X.P.length
 hnew:NewOk s1 s0 V.V ts tn d
 hts:0≤ts∧ts≤9000000000000000000
 htn:0≤tn∧tn<1000000000
 hd1:0≤d∧d≤9000000000000000000
 hper:0≤per∧per≤9000000000000000000
 hexp:laterB (addS (s0.H.sec+62135596800) s0.H.ns per) (addN s0.H.ns per) ts tn=true
 hlim:s0.H.ht≤1000000
 hnx:s1.H.ht=s0.H.ht+1→(s1.H.hh 2).l=(s0.H.hh 3).l
 hok:SingOk true V s1.C s0.H.ch (sumP V.V*2 / 3)
 hokx:s1.H.ht≠s0.H.ht+1→SingOk false X s1.C s0.H.ch (sumP X.V / 3)
theorem ChkOk.after{s1 s0:Sh}{X V:Vs}{g1 g0 gx gv:Nat}{per ts tn d:Int}{w w':World}(h:ChkOk s1 s0 X V g1 g0 gx gv per ts tn d w)(hb:Below w.heap.size w w'):ChkOk s1 s0 X V g1 g0 gx gv per ts tn d w':=
 {h with hA:=h.hA.after hb,hX:=h.hX.after hb}
def EndVer(X Y:List Vl)(C:Cm)(ch:ByteArray)(t1 t0:Int)(e:Ending):Prop:=t1=t0+1∧EndTal Y C ch e∨t1≠t0+1∧EndFar X Y C ch t1 t0 e
def OutVer(X Y:List Vl)(C:Cm)(ch:ByteArray)(t1 t0:Int)(r:Int):Prop:=t1=t0+1∧OutTal Y C ch r∨t1≠t0+1∧OutFar X Y C ch t1 t0 r
theorem c_ver(s1 s0:Sh)(X V:Vs)(g1 g0 gx gv:Nat)(per ts tn d:Int)(w:World)(hK:ChkOk s1 s0 X V g1 g0 gx gv per ts tn d w):
  Calls Tryz.prog 52 #[.pointer (some ⟨g0,0,none⟩),.pointer (some ⟨gx,0,none⟩),.pointer (some ⟨g1,0,none⟩),.pointer (some ⟨gv,0,none⟩),.int .i64 per,.agg #[.int .i64 ts,.int .i32 tn],.int .i64 d,.agg #[.int .u64 1,.int .u64 3]] w fun e w'=>EndVer X.V V.V s1.C s0.H.ch s1.H.ht s0.H.ht e∧∃u,GB w u gx∧GB u w' gv:=by
 refine en (sz:=49) rfl rfl rfl fun a hs hd zl=>?_;have hB:=bz_refl w
 have hA:=hK.hA;have c1:w.cell? ⟨g1,0,none⟩=some (.pointer (some ⟨s1.gh,0,none⟩)):=hA.g1.cell 0;have c0:w.cell? ⟨g0,0,none⟩=some (.pointer (some ⟨s0.gh,0,none⟩)):=hA.g0.cell 0;obtain⟨t0,hT0⟩:∃n,Is s0.H.ht n:=is_self _;obtain⟨t1,hT1⟩:∃n,Is s1.H.ht n:=is_self _;have hb0:=hK.hn0.ht;have hlim:=hK.hlim;rw[hT0.out]at hb0 hlim;have d1:w.cell? ⟨s1.gh,3,none⟩=some (.int .i64 t1):=by rw[← hT1.out];exact hA.s1.hb.cell 3
 have d0:w.cell? ⟨s0.gh,3,none⟩=some (.int .i64 t0):=by rw[← hT0.out];exact hA.s0.hb.cell 3
 have ew:IntKind.i64.wrap (t0+1)=t0+1:=IntWalk.i64_in _ (by omega);have l1:=hA.g1.lt;have l0:=hA.g0.lt;have m1:=hA.s1.hb.lt;have m0:=hA.s0.hb.lt;refine wp_seq (wp_region_list ?_);refine ta hs hd zl ?_;intro g10 u hg10 hge10 hb;clear hs hd zl;intro a hs hd zl;replace hB:=bz_then hB hb;(try clear hup);have hup:=bup hB;clear hb;refine ta hs hd zl ?_;intro g15 u hg15 hge15 hb;clear hs hd zl;intro a hs hd zl;replace hg10:=hg10.after hb;replace hB:=bz_then hB hb;(try clear hup);have hup:=bup hB;clear hb;refine wW ?_;clear hs hd zl;intro a hs hd zl
 (try change Code.wp _ _ _ _ _);refine fx [(17,_),(18,_),(19,_),(20,_),(21,_),(22,_),(23,_),(24,_),(25,_),(26,_),(27,_),(28,_),(29,_),(30,_),(31,_)] 15 hs hd zl ?_;clear hs hd zl;intro a u hb hs hd zl
 replace hg10:=hg10.after hb;replace hg15:=hg15.after hb;replace hB:=bz_then hB hb;(try clear hup);have hup:=bup hB;clear hb;replace zl:=kp [0,1,2,3,4,6,13,15,16,23,31] zl;have hK2:=hK.after hB;by_cases hht:t1=t0+1
 ·have e1:(t1 != t0+1)=false:=by rw[hht];simp
  have hht2:s1.H.ht=s0.H.ht+1:=by rw[hT1.out,hT0.out];exact hht
  have HHT:=Is.hid hht2;clear hht hht2;refine wW ?_;clear hs hd zl;intro a hs hd zl;refine tk hs hd zl (fun K Q hK=>op_load_row 80 (.tmp 13) rfl g10 (sl zl 13) _ #[.int .i64 ts,.int .i32 tn] _ hg10 rfl rfl (by kernel_rfl) hK) ?_;clear hs hd zl;intro a hs hd zl;refine wW ?_;clear hs hd zl;intro a hs hd zl;refine tc (c_va s1 s0 V g1 g0 gv per ts tn d u hK2.hA hK2.hf hK2.htot hK2.hwf hK2.hn0 hK2.hV hK2.hnew hK2.hts hK2.htn hK2.hd1 hK2.hper hK2.hexp HHT.out (hK2.hnx HHT.out) hK2.hok) hs hd zl ?_;rintro _ u2 ⟨hT,hG⟩;obtain⟨v,rfl⟩:=hT.ret;refine⟨v,rfl,?_⟩;clear hs hd zl;intro a hs hd zl;clear hup e1;refine wW ?_;clear hs hd zl;intro a hs hd zl;refine wp_ret ?_;(repeat first|refine then_ret ?_|refine inBlock_ret ?_);exact end_tmp rfl hd (sl zl 16) ⟨.inl ⟨HHT.out,hT⟩,u,gb_below hB _,hG⟩
 ·have e1:(t1 != t0+1)=true:=by rw[bne_iff_ne];exact hht
  have hht2:s1.H.ht≠s0.H.ht+1:=by rw[hT1.out,hT0.out];exact hht
  have HHT:=Is.hid hht2;clear hht hht2;refine wW ?_;clear hs hd zl;intro a hs hd zl;refine tk hs hd zl (fun K Q hK=>op_load_row 80 (.tmp 13) rfl g10 (sl zl 13) _ #[.int .i64 ts,.int .i32 tn] _ hg10 rfl rfl (by kernel_rfl) hK) ?_;clear hs hd zl;intro a hs hd zl;refine wW ?_;clear hs hd zl;intro a hs hd zl;refine tk hs hd zl (fun K Q hK=>op_load_row 84 (.tmp 15) rfl g15 (sl zl 15) _ #[.int .u64 1,.int .u64 3] _ hg15 rfl rfl (by kernel_rfl) hK) ?_;clear hs hd zl;intro a hs hd zl;refine tc (c_vna s1 s0 X V g1 g0 gx gv per ts tn d u hK2.hA hK2.hX hK2.hf hK2.htot hK2.hxy hK2.hfx hK2.hwf hK2.hn0 hK2.hV hK2.hX0 hK2.hnew hK2.hts hK2.htn hK2.hd1 hK2.hper hK2.hexp HHT.out hK2.hlim hK2.hok (hK2.hokx HHT.out)) hs hd zl ?_;rintro _ u2 ⟨hT,u1,hG1,hG2⟩;obtain⟨v,rfl⟩:=hT.ret;refine⟨v,rfl,?_⟩;clear hs hd zl;intro a hs hd zl;clear hup e1;refine wW ?_;clear hs hd zl;intro a hs hd zl;refine wp_ret ?_;(repeat first|refine then_ret ?_|refine inBlock_ret ?_);exact end_tmp rfl hd (sl zl 16) ⟨.inr ⟨HHT.out,hT⟩,u1,gb_trans (gb_below hB _) hG1,hG2⟩
theorem EndVer.ret{X Y:List Vl}{C:Cm}{ch:ByteArray}{t1 t0:Int}{e:Ending}(h:EndVer X Y C ch t1 t0 e):∃v,e=.returned v:=by
 rcases h with⟨_,h⟩|⟨_,h⟩
 ·exact h.ret
 ·exact h.ret
theorem c_outVer{X Y:List Vl}{C:Cm}{ch:ByteArray}{t1 t0:Int}{v:Value}(h:EndVer X Y C ch t1 t0 (.returned v))(w:World):Calls Tryz.prog 51 #[v] w fun e w'=>∃r,e=.returned (.int .i64 r)∧OutVer X Y C ch t1 t0 r∧Below w.heap.size w w':=by
 rcases h with⟨h0,h⟩|⟨h0,h⟩
 ·exact(c_outTal h w).mono fun e w' ⟨r,h1,h2,h3⟩=>⟨r,h1,.inl ⟨h0,h2⟩,h3⟩
 ·exact(c_outFar h w).mono fun e w' ⟨r,h1,h2,h3⟩=>⟨r,h1,.inr ⟨h0,h2⟩,h3⟩
theorem c_chk(s1 s0:Sh)(X V:Vs)(g1 g0 gx gv:Nat)(per ts tn d:Int)(w:World)(hK:ChkOk s1 s0 X V g1 g0 gx gv per ts tn d w):
  Calls Tryz.prog 29 #[.pointer (some ⟨g0,0,none⟩),.pointer (some ⟨gx,0,none⟩),.pointer (some ⟨g1,0,none⟩),.pointer (some ⟨gv,0,none⟩),.int .i64 per,.agg #[.int .i64 ts,.int .i32 tn],.int .i64 d,.agg #[.int .u64 1,.int .u64 3]] w fun e w'=>∃r,e=.returned (.int .i64 r)∧OutVer X.V V.V s1.C s0.H.ch s1.H.ht s0.H.ht r∧∃u,GB w u gx∧GB u w' gv:=by
 refine en (sz:=27) rfl rfl rfl fun a hs hd zl=>?_;have hB:=bz_refl w
 refine wp_seq (wp_region_list ?_);refine ta hs hd zl ?_;intro g10 u hg10 hge10 hb;clear hs hd zl;intro a hs hd zl;replace hB:=bz_then hB hb;(try clear hup);have hup:=bup hB;clear hb;refine ta hs hd zl ?_;intro g15 u hg15 hge15 hb;clear hs hd zl;intro a hs hd zl;replace hg10:=hg10.after hb;replace hB:=bz_then hB hb;(try clear hup);have hup:=bup hB;clear hb;refine wW ?_;clear hs hd zl;intro a hs hd zl;refine tk hs hd zl (fun K Q hK=>op_load_row 80 (.tmp 13) rfl g10 (sl zl 13) _ #[.int .i64 ts,.int .i32 tn] _ hg10 rfl rfl (by kernel_rfl) hK) ?_;clear hs hd zl;intro a hs hd zl;refine wW ?_;clear hs hd zl;intro a hs hd zl;refine tk hs hd zl (fun K Q hK=>op_load_row 84 (.tmp 15) rfl g15 (sl zl 15) _ #[.int .u64 1,.int .u64 3] _ hg15 rfl rfl (by kernel_rfl) hK) ?_;clear hs hd zl;intro a hs hd zl;refine tc (c_ver s1 s0 X V g1 g0 gx gv per ts tn d u (hK.after hB)) hs hd zl ?_;rintro _ u2 ⟨hT,u1,hG1,hG2⟩;obtain⟨v,rfl⟩:=hT.ret;refine⟨v,rfl,?_⟩;clear hs hd zl;intro a hs hd zl;clear hup
 (repeat first|refine wp_seq ?_|refine wp_block ?_|refine wp_region_list ?_|(refine tx hs hd zl ?_;clear hs hd zl;intro a hs hd zl)|(refine tn hs hd zl ?_;clear hs hd zl;intro a hs hd zl)|refine ct zl ?_|refine cf zl ?_|refine wp_skip ?_)
 refine tc (c_outVer hT u2) hs hd zl ?_;rintro _ u3 ⟨r,rfl,hr,hb⟩;refine⟨_,rfl,?_⟩;clear hs hd zl;intro a hs hd zl;refine wW ?_;clear hs hd zl;intro a hs hd zl;refine wp_ret ?_;(repeat first|refine then_ret ?_|refine inBlock_ret ?_);exact end_tmp rfl hd (sl zl 16) ⟨r,rfl,hr,u1,gb_trans (gb_below hB _) hG1,gb_then hG2 hb⟩
def adB(s x:Seat):Bool:=eqB x.a s.a
def FItem.px(t:Nat)(R:Value→World→Prop)(hk:∀v w w',Below w.heap.size w w'→R v w→R v w'):FItem:={reads:=[t],fact:=fun vs w=>∃v,vs=[v]∧R v w,keeps:=fun _ _ _ hb ⟨v,h1,h2⟩=>⟨v,h1,hk _ _ _ hb h2⟩}
theorem FItem.px_holds{t:Nat}{R:Value→World→Prop}{hk:∀v w w',Below w.heap.size w w'→R v w→R v w'}{a:Act}{w:World}:(FItem.px t R hk).holds a w↔R (a.tmps.getD t undef) w:=by
 constructor
 ·rintro⟨v,h1,h2⟩;injection h1 with h1;have h1:a.tmps.getD t undef=v:=h1;rw[h1];exact h2
 ·exact fun h=>⟨_,rfl,h⟩
theorem px_put{R:Value→World→Prop}{hk:∀v w w',Below w.heap.size w w'→R v w→R v w'}{a:Act}{w:World}{d sz:Nat}{v:Value}(hs:SzIs a sz)(hd:d<sz)(h:R v w):(FItem.px d R hk).holds (a.put (some d) v) w:=FItem.px_holds.2 (by rw[put_eq hs hd];exact h)
def BytesV(s:ByteArray)(v:Value)(w:World):Prop:=∃b:HSl,v=.slice b.A b.l.length b.c∧Is b.l (bytesOf s)∧Hb b w
theorem BytesV.keeps(s:ByteArray):∀v (w w':World),Below w.heap.size w w'→BytesV s v w→BytesV s v w':=fun _ _ _ hb ⟨b,h1,h2,h3⟩=>⟨b,h1,h2,h3.after hb⟩
theorem conv_bv(w:World)(s:ByteArray)(hsz:s.size≤2200000000):BytesV s (.slice (some ⟨w.heap.size,0,none⟩) s.size (grownCap w s.size 0 5)) (Lib.bytesWorld w 5 s):=
 ⟨⟨some ⟨w.heap.size,0,none⟩,grownCap w s.size 0 5,bytesOf s⟩,by rw[bytesOf_length],rfl,⟨bs_conv w _ s,.inr ⟨_,_,rfl⟩,by rw[bytesOf_length];exact grownCap_ge _ _ _ _,bytesOf_bytes s,by rw[bytesOf_length];exact hsz,fun k hk=>by
  injection hk with hk;have hk:w.heap.size=k:=hk;rw[Lib.bytesWorld_size];omega⟩,_,_,_,rfl,Lib.bytesWorld_at_new _ _ _⟩
theorem bcv{Q:Exit→Act→World→Prop}{F:List (Nat×Value)}{sz:Nat}{W:World}{its:List FItem}{o:Oper}{d x:Nat}{s:ByteArray}(j:Nat)(hsz:s.size≤2200000000)(hop:o.op=.convert 9 32 (.tmp x):=by exact rfl)(hj:its[j]?=some (FItem.eq x (.string s)):=by exact rfl)(hcj:(deps o).contains j=true:=by kernel_rfl)
  (hdst:o.dst=some d:=by exact rfl)(hlt:d<sz:=by decide):Bare Tryz.prog Q F sz W its o (FItem.px d (BytesV s) (BytesV.keeps s)):=fun a w hb hs hl hd K hK=>by
 have kc:=Lib.run_convert_string_bytes (P:=Tryz.prog) w 9 32 5 s Tryz.underlying9 Tryz.underlying32 Tryz.underlying5;have hv:a.eval (.tmp x)=.string s:=dep_get hd j hcj hj;rw[hdst]at hK;unfold Oper.wp execOp;simp only[hop,hv,Sem.run_bind,Sem.run_pure,Result.andThen_ok,kc];rw[Oper.upon_value,hdst];exact hK _ _ (bz_bytes (bz_refl _) _ _) (px_put hs hlt (conv_bv w s hsz))
def csMk(s:Sg)(b:HSl):CS:=⟨s.fl,b,s.sec+62135596800,s.ns,s.sg⟩
def CsV(s:Sg)(v:Value)(w:World):Prop:=∃b:HSl,v=.agg (csMk s b).cells.toArray∧Is b.l (bytesOf s.ad)∧Hb b w
def CsR(s:Sg)(v:Value)(w:World):Prop:=∃(g c:Nat) (b:HSl),v=.slice (some ⟨g,0,none⟩) 1 c∧Blk w g 124 (csMk s b).cells.toArray∧Is b.l (bytesOf s.ad)∧Hb b w
theorem CsV.keeps(s:Sg):∀v (w w':World),Below w.heap.size w w'→CsV s v w→CsV s v w':=fun _ _ _ hb ⟨b,h1,h2,h3⟩=>⟨b,h1,h2,h3.after hb⟩
theorem CsR.keeps(s:Sg):∀v (w w':World),Below w.heap.size w w'→CsR s v w→CsR s v w':=fun _ _ _ hb ⟨g,c,b,h1,h2,h3,h4⟩=>⟨g,c,b,h1,h2.after hb,h3,h4.after hb⟩
structure CsOf(s:Sg)(c:CS):Prop where
 fl:c.fl=s.fl
 ad:c.ad.l=bytesOf s.ad
 sec:c.sec=s.sec+62135596800
 ns:c.ns=s.ns
 sg:c.sg=s.sg
structure CssOf(S:List Sg)(T:List CS):Prop where
 len:T.length=S.length
 of_:∀(i:Nat) (s:Sg) (c:CS),S[i]?=some s→T[i]?=some c→CsOf s c
theorem CssOf.snoc{S:List Sg}{V:List CS}{k:Nat}{s:Sg}{v:CS}(h:CssOf (S.take k) V)(hk:S[k]?=some s)(hv:CsOf s v):CssOf (S.take (k+1)) (V++[v]):=by
 have hkl:k<S.length:=(List.getElem?_eq_some_iff.1 hk).1;have hl:V.length=k:=by rw[h.len,List.length_take];omega
 refine⟨by rw[List.length_append,hl,List.length_take];simp;omega,fun i s' v' h1 h2=>?_⟩;rcases Nat.lt_or_ge i k with hi|hi
 ·rw[List.getElem?_append_left (by omega)]at h2;rw[List.getElem?_take_of_lt (by omega)]at h1;exact h.of_ i s' v' (by rw[List.getElem?_take_of_lt hi];exact h1) h2
 ·have h3:=(List.getElem?_eq_some_iff.1 h2).1;rw[List.length_append,hl]at h3;obtain rfl:i=k:=by simp at h3;omega
  rw[List.getElem?_take_of_lt (by omega),hk]at h1;rw[List.getElem?_append_right (by omega),hl,Nat.sub_self]at h2;injection h1 with h1;injection h2 with h2;subst h1 h2;exact hv
structure SgOk(s:Sg)(w:World):Prop where
 fl:0≤s.fl∧s.fl≤255
 sec:-9000000000000000000≤s.sec∧s.sec≤9000000000000000000
 ns:0≤s.ns∧s.ns≤2147483647
 ad:s.ad.size≤2200000000
 sg:s.sg.ok w
def icMk(C:Ic)(B:Option Addr)(d:Nat)(T:List CS):Cm:=⟨C.ht,C.rd,C.b,C.bt,C.bp,B,d,T⟩
theorem c_isg(H:Hd)(C:Ic)(w:World)(hn:H.num)(hH:H.ok w)(hb':C.b.ok w)(hbp:C.bp.ok w)(hbt:0≤C.bt∧C.bt≤4294967295)(hrd:0≤C.rd∧C.rd≤2147483647)(hrows:RowsAt w C.A 5 (sgRows C.S))(hsg:∀s∈C.S,SgOk s w)(hn0:0<C.S.length)(hn20:C.S.length≤20):
  Calls Tryz.prog 30 #[.agg H.cells,.agg C.cells] w fun e w'=>∃(s:Sh) (g:Nat),e=.returned (.pointer (some ⟨g,0,none⟩))∧Blk w' g 128 s.cells∧s.at w'∧s.H=H∧s.ps.l=bytesOf H.pr∧(∃B d T,s.C=icMk C B d T∧CssOf C.S T)∧w.heap.size≤g∧Below w.heap.size w w':=by
 refine en (sz:=52) rfl rfl rfl fun a hs hd zl=>?_;have hB:=bz_refl w
 obtain⟨n,hN⟩:∃n,Is C.S.length n:=is_self _;rw[hN.out]at hn20 hn0;refine wp_seq (wp_region_list ?_);refine ta (cs:=H.cells) hs hd zl ?_;intro g2 u hg2 hge2 hb;clear hs hd zl;intro a hs hd zl;replace hB:=bz_then hB hb;(try clear hup);have hup:=bup hB;clear hb;refine ta (cs:=C.cells) hs hd zl ?_;intro g3 u hg3 hge3 hb;clear hs hd zl;intro a hs hd zl;replace hg2:=hg2.after hb;replace hB:=bz_then hB hb;(try clear hup);have hup:=bup hB;clear hb;refine wW ?_;clear hs hd zl;intro a hs hd zl;have c0:u.cell? ⟨g3,0,none⟩=some (.int .i64 C.ht):=hg3.cell 0;have c1:u.cell? ⟨g3,1,none⟩=some (.int .i64 C.rd):=hg3.cell 1;have l3:=hg3.lt;have ew:IntKind.i32.wrap C.rd=C.rd:=IntWalk.i32_in _ (by omega)
 (try change Code.wp _ _ _ _ _);refine fx [(8,_),(9,_),(10,_),(11,_),(12,_),(13,_),(14,_),(15,_)] 8 hs hd zl ?_ (hstep:=by(simp only[List.map_cons,List.map_nil];(repeat' first|exact trivial|refine And.intro (sP bo) ?_|refine And.intro (sY bo) ?_|refine And.intro sN ?_|refine And.intro (sP (bk (v:=.agg #[C.b.v,.int .i64 C.bt,C.bp.v]) (fun a u1 hb zl hd K Q hK=>op_load_part 34 (.tmp 13) rfl g3 2 (vD hd 5) _ _ #[C.b.v,.int .i64 C.bt,C.bp.v] _ (hg3.after hb) (show(2+3:Nat)≤6 by decide) rfl rfl (by kernel_rfl) rfl hK))) ?_|refine And.intro (sP (bc (v:=.agg #[C.b.v,.int .u32 C.bt,C.bp.v]) (fun u1 hb1=>c_block C.b C.bp C.bt u1 hbt))) ?_)));clear hs hd zl;intro a u hb hs hd zl
 replace hg2:=hg2.after hb;replace hg3:=hg3.after hb;replace hB:=bz_then hB hb;(try clear hup);have hup:=bup hB;clear hb;clear c0 c1 l3 ew;refine tx (v:=.agg (icMk C none 0 []).cells) hs hd zl ?_;clear hs hd zl;intro a hs hd zl;refine ta (cs:=(icMk C none 0 []).cells) hs hd zl ?_;intro gc u hgc hgce hb;clear hs hd zl;intro a hs hd zl;have hGC0:=Nat.le_trans hB.size hgce;replace hg2:=hg2.after hb;replace hg3:=hg3.after hb;replace hB:=bz_then hB hb;(try clear hup);have hup:=bup hB;clear hb;have c5:u.cell? ⟨g3,5,none⟩=some (.slice C.A n C.c):=by rw[← hN.out];exact hg3.cell 5
 refine wW ?_;clear hs hd zl;intro a hs hd zl;clear c5 hg3;have HGC:w.heap.size≤gc:=hGC0;clear hGC0;refine wp_loop (fun a u=>∃(k:Nat) (T:List CS) (B:Option Addr) (d:Nat),SzIs a 52∧DfNil a∧LiveAll [(2,.pointer (some ⟨g2,0,none⟩)),(5,.pointer (some ⟨gc,0,none⟩)),(19,.slice C.A n C.c),(20,.int .i64 ((n:Nat):Int)),(21,.int .i64 ((k:Nat):Int))] a∧k≤n∧CssOf (C.S.take k) T∧Below w.heap.size w u∧Blk u g2 37 H.cells∧Blk u gc 121 (icMk C B d T).cells∧OwnR 124 5 w.heap.size u B d (csRows T)∧∀c∈T,Hb c.ad u)
  (fun a _=>n-(intOf (a.tmps.getD 21 undef)).toNat) ⟨0,[],none,0,hs,hd,ks zl,Nat.zero_le _,⟨rfl,fun i s v h=>by simp at h⟩,hB,hg2,hgc,OwnR.nil _ _ _ _,fun v h=>by simp at h⟩ ?_
 clear hs hd zl hB hup hg2 hgc u;rintro a u ⟨k,T,B,d,hs,hd,zl,hk,hT,hB,hg2,hgc,hown,hpv⟩;have hup:=bup hB;have hm:(intOf (a.tmps.getD 21 undef)).toNat=k:=by rw[sl zl 21];simp[intOf]
 rw[hm];clear hm;by_cases hlt:k<n
 ·have e1:decide (k<n)=true:=decide_eq_true hlt;have ew:IntKind.i64.wrap ((k:Int)+1)=((k+1:Nat):Int):=by rw[IntWalk.i64_in _ (by omega)];omega
  obtain⟨s,hSk⟩:∃s,C.S[k]?=some s:=⟨C.S[k]'(by rw[hN.out];exact hlt),List.getElem?_eq_getElem _⟩;have hs1:=hsg s (List.mem_of_getElem? hSk);obtain⟨b,o,eA,hb0,hcs⟩:=(hrows.after hB).at_ (by rw[sgRows_length,hN.out];exact hn0);have hck:=hcs k s.cells (sgRows_get hSk);clear hcs;rw[eA]at zl;have HA:=Is.hid eA;have HS:=Is.hid hSk;clear eA hSk;refine wW ?_;clear hs hd zl;intro a hs hd zl;refine tk hs hd zl (fun K Q hK=>op_load_cells 59 (.tmp 23) rfl b _ (sl zl 23) s.cells _ hck.2 rfl rfl (by kernel_rfl) hK) ?_;clear hs hd zl;intro a hs hd zl;clear hck hb0;have hgcl:=hgc.lt;refine tas (cs:=s.cells.toArray) hs hd zl (fun v hv=>s.one v hv) ?_;intro g7 u7 hg7 hge7 hb;clear hs hd zl;intro a hs hd zl;have HGE:=Nat.le_trans hB.size hge7;replace hown:=hown.after hb;replace hpv:=fun v hv=>(hpv v hv).after hb
  replace hg2:=hg2.after hb;replace hgc:=hgc.after hb;replace hB:=bz_then hB hb;(try clear hup);have hup:=bup hB;clear hb;have c0:u7.cell? ⟨gc,5,none⟩=some (.slice B T.length d):=hgc.cell 5;have d0:u7.cell? ⟨g7,0,none⟩=some (.int .i64 s.fl):=hg7.cell 0;have d1:u7.cell? ⟨g7,1,none⟩=some (.string s.ad):=hg7.cell 1;have d4:u7.cell? ⟨g7,4,none⟩=some s.sg.v:=hg7.cell 4;have l1:=hgc.lt;have l7:=hg7.lt;have ewf:IntKind.u8.wrap s.fl=s.fl:=IntWalk.u8_in _ (by have:=hs1.fl;omega);change Code.wp _ _ _ _ _;refine fxf 0 [.inl (25,_),.inl (26,_),.inl (27,_),.inl (28,_),.inl (29,_),.inl (30,_),.inl (31,_),.inl (32,_),.inl (33,_),.inl (34,_),.inr (.px 35 (BytesV s.ad) (BytesV.keeps s.ad)),.inl (36,_),.inl (37,_),.inl (38,_),.inl (39,_),.inl (40,_),.inr (.px 41 (CsV s) (CsV.keeps s)),.inr (.px 42 (CsR s) (CsR.keeps s))] 18 hs hd zl
   (by(simp only[List.map_cons,List.map_nil,itS];(repeat' first|exact trivial|refine And.intro (sP bo) ?_|refine And.intro (sP (bcv 9 hs1.ad)) ?_|refine And.intro (sP (bk (v:=.agg #[.int .i64 s.sec,.int .i64 s.ns]) (fun a u1 hb zl hd K Q hK=>op_load_part 31 (.tmp 36) rfl g7 2 (vD hd 11) _ _ #[.int .i64 s.sec,.int .i64 s.ns] _ (hg7.after hb) (show(2+2:Nat)≤5 by decide) rfl rfl (by kernel_rfl) rfl hK))) ?_|refine And.intro (sP (bc (v:=.agg #[.int .i64 (s.sec+62135596800),.int .i32 s.ns]) (fun u1 hb1=>c_moment s.sec s.ns u1 hs1.sec hs1.ns))) ?_|refine And.intro (sP (fun a u hb hs zl hd K hK=>by(obtain⟨b,e35,h1,h2⟩:=FItem.px_holds.1 (dep_get0 hd 10 (by kernel_rfl));have q35:=gd e35;simp[deps,Region.binds,deG,deN,eqG]at hd;unfold HSl.v at hd;go_simp;exact hK (.agg (csMk s b).cells.toArray) _ (Below.refl _ _) (px_put hs (by decide) ⟨b,rfl,h1,h2⟩)))) ?_|refine And.intro (sP (fun a u hb hs zl hd K hK=>by(obtain⟨b,e41,h1,h2⟩:=FItem.px_holds.1 (dep_get0 hd 16 (by kernel_rfl));have q41:=gd e41;clear hd;go_simp;exact hK _ _ (bz_alloc (bz_refl _) _) (px_put hs (by decide) ⟨_,_,b,rfl,Blk.new _ _ _,h1,h2.after (bz_alloc (bz_refl _) _)⟩)))) ?_))) ?_
  intro a u hb hs hd zl hh;replace hown:=hown.after hb;replace hpv:=fun v hv=>(hpv v hv).after hb
  replace hg2:=hg2.after hb;replace hgc:=hgc.after hb;replace hB:=bz_then hB hb;(try clear hup);have hup:=bup hB;clear hb;obtain⟨-,-,h42,-⟩:=hh;obtain⟨gs,cc,ab,e42,hgs,hab,hHb⟩:=FItem.px_holds.1 h42;replace zl:=kp [2,5,19,20,21,25,29] zl;replace zl:LiveAll ((42,_)::_) a:=⟨e42,zl⟩;clear c0 d0 d1 d4 e42 h42 l1 l7 hg7;have hlT:T.length=k:=by rw[hT.len,List.length_take,hN.out];omega
  have HLT:=Is.hid hlT;clear hlT;refine tw (fun v1 u1=>∃B1 d1,v1=.slice B1 (T++[csMk s ab]).length d1∧OwnR 124 5 w.heap.size u1 B1 d1 (csRows (T++[csMk s ab]))∧Below w.heap.size u u1∧u.grownBy u1 (blkOf B)) hs hd zl (fun K Q hK=>
   op_app_row (.tmp 29) (.tmp 42) rfl Tryz.underlying119 (z:=.agg #[.int .u8 0,.slice none 0 0,.int .i64 0,.int .i32 0,.slice none 0 0]) (k:=5) (bytes:=72) (by kernel_rfl) rfl (by decide) (R:=csRows T) (r:=(csMk s ab).cells) (by unfold csRows;rw[List.length_map];exact sl zl 29) (sl zl 42) hown hgs rfl (csMk s ab).one (by unfold csRows;rw[List.length_map,HLT.out];omega) (by decide) hB.size
    (fun B1 d1 u1 h1 h2 h3 _=>by
     have e:csRows T++[(csMk s ab).cells]=csRows (T++[csMk s ab]):=by simp[csRows]
     rw[e]at h1⊢;rw[show(csRows (T++[csMk s ab])).length=(T++[csMk s ab]).length from List.length_map ..];exact hK _ _ ⟨B1,d1,rfl,h1,h2,h3⟩)) ?_
  rintro _ u1 ⟨B1,d1,rfl,hown1,hb1,hgb⟩;clear hs hd zl;intro a hs hd zl;have hgn:=hown.gbn (by decide);have hne:=hown.ne hgc (by decide);have hne2:=hown.ne hg2 (by decide);have hgc1:Blk u1 gc _ _:=gb_blk hgb hgc (fun e=>hne e.symm);have hg21:Blk u1 g2 _ _:=gb_blk hgb hg2 (fun e=>hne2 e.symm);have hpv1:∀v∈T++[csMk s ab],Hb v.ad u1:=fun v hv=>by
   rcases List.mem_append.1 hv with hv|hv
   ·exact(hpv v hv).gb hgb hgn
   ·rw[List.mem_singleton.1 hv];exact hHb.gb hgb hgn
  replace hB:Below w.heap.size w u1:=hB.trans hb1;have hT1:=hT.snoc HS.out (v:=csMk s ab) ⟨rfl,hab.out,rfl,rfl,rfl⟩;clear hpv hown hgs hgn hgb hb1 hg2 hgc hne hne2 hHb hT hup;have hup:=bup hB;have c0:u1.cell? ⟨gc,5,none⟩=some (.slice B T.length d):=hgc1.cell 5;have f0:=hgc1.free 5;have e2:(T++[csMk s ab]).length=T.length+1:=by simp
  refine wW ?_;clear hs hd zl;intro a hs hd zl;refine ts hs hd zl ?_;clear hs hd zl;intro a hs hd zl;have hGB:=gb1 u1 gc 5 (.slice B1 (T.length+1) d1);have hgc2:Blk (u1.setCell ⟨gc,5,none⟩ (.slice B1 (T.length+1) d1)) gc 121 (icMk C B1 d1 (T++[csMk s ab])).cells:=by
   simp only[icMk,Cm.cells];rw[e2];exact hgc1.set_ 5 _
  have hown2:=OwnR.setCell (o:=5) (u:=.slice B1 (T.length+1) d1) hown1 hgc1 (by decide);have hg22:=hg21.gbT hgc1 (by decide) hGB;have hpv2:=fun v hv=>(hpv1 v hv).gb hGB (fun g e=>by injection e with e;subst e;exact⟨_,_,hgc1,by decide⟩)
  have hB2:Below w.heap.size w (u1.setCell ⟨gc,5,none⟩ (.slice B1 (T.length+1) d1)):=hB.setCell (p:=⟨gc,5,none⟩) HGC _;clear hGB;generalize u1.setCell ⟨gc,5,none⟩ (.slice B1 (T.length+1) d1)=u2 at hgc2 hown2 hg22 hpv2 hB2⊢;clear hpv1 hg21 hgc1 hown1 hup c0 f0 hB;refine wW ?_;clear hs hd zl;intro a hs hd zl;rw[← HA.out]at zl;refine⟨⟨k+1,T++[csMk s ab],B1,d1,hs,hd,ks zl,hlt,hT1,hB2,hg22,hgc2,hown2,hpv2⟩,?_⟩;rw[sl zl 21];simp[intOf];omega
 ·obtain rfl:k=n:=by omega
  have e1:decide (k<k)=false:=decide_eq_false (by omega);refine wW ?_;clear hs hd zl;intro a hs hd zl;refine wp_exit ?_;(repeat refine then_exit ?_);refine inBlock_exit ?_;rw[← hN.out,List.take_length]at hT
  (repeat first|refine wp_seq ?_|refine wp_block ?_|refine wp_region_list ?_|(refine tx hs hd zl ?_;clear hs hd zl;intro a hs hd zl)|(refine tn hs hd zl ?_;clear hs hd zl;intro a hs hd zl)|refine ct zl ?_|refine cf zl ?_|refine wp_skip ?_)
  refine tk hs hd zl (fun K Q hK=>op_load_row 37 (.tmp 2) rfl g2 (sl zl 2) _ H.cells _ hg2 rfl rfl (by kernel_rfl) hK) ?_;clear hs hd zl;intro a hs hd zl;refine tc (c_header H u hn) hs hd zl ?_;rintro _ u2 ⟨gh,ps,rfl,hgh,hps,hpl,hghe,hb⟩;refine⟨_,rfl,?_⟩;clear hs hd zl;intro a hs hd zl;replace hgc:=hgc.after hb;replace hown:=hown.after hb;replace hpv:=fun v hv=>(hpv v hv).after hb
  replace hB:=bz_then hB hb;(try clear hup);have hup:=bup hB;clear hb;refine wW ?_;clear hs hd zl;intro a hs hd zl;refine ta (cs:=#[.pointer (some ⟨gh,0,none⟩),.pointer (some ⟨gc,0,none⟩)]) hs hd zl ?_;intro gr u3 hgr hgre hb;clear hs hd zl;intro a hs hd zl;have HGR:=Nat.le_trans hB.size hgre;replace hgc:=hgc.after hb;replace hown:=hown.after hb;replace hpv:=fun v hv=>(hpv v hv).after hb
  replace hgh:=hgh.after hb;replace hps:=hps.after hb;replace hB:=bz_then hB hb;(try clear hup);have hup:=bup hB;clear hb;refine wW ?_;clear hs hd zl;intro a hs hd zl;refine wp_ret ?_;(repeat first|refine then_ret ?_|refine inBlock_ret ?_);refine end_tmp rfl hd (sl zl 4) ⟨⟨H,ps,gh,icMk C B d T,gc⟩,gr,rfl,hgr,⟨hgh,hH.after hB,hps,⟨hgc,hb'.after hB,hbp.after hB,hown.rows,?_,?_,fun c hc=>?_⟩⟩,rfl,hpl.out,⟨B,d,T,rfl,hT⟩,HGR,hB⟩
  ·exact hown.fm_ (List.length_map ..)
  ·have:=hown.cap;rw[show(csRows T).length=T.length from List.length_map ..]at this;exact this
  ·obtain⟨i,hi⟩:=List.getElem?_of_mem hc;have hi2:i<C.S.length:=by rw[← hT.len];exact(List.getElem?_eq_some_iff.1 hi).1
   refine⟨(hpv c hc).ok,?_⟩;rw[(hT.of_ i _ c (List.getElem?_eq_getElem hi2) hi).sg];exact(hsg _ (List.getElem_mem hi2)).sg.after hB
end Go.Proofs.YtjhnnjhaklohhaaGreatDoor
