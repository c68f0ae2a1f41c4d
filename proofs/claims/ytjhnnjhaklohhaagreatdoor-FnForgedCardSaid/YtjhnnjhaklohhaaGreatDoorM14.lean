/- FnForged: the law's walk. FnForged: whatever the input, the law returns true, and its arguments read as they did; the table of SHA-256 as the program's text lays it. No condition. -/
import Derived.Test.YtjhnnjhaklohhaaGreatDoorM13
import Derived.Test.YtjhnnjhaklohhaaGreatDoorM1
import Derived.Test.YtjhnnjhaklohhaaGreatDoorRows
import Derived.Test.YtjhnnjhaklohhaaGreatDoorCards
import Derived.Test.YtjhnnjhaklohhaaGreatDoorTie
import Derived.ProofKit
import Derived.OpenShut
import Derived.ChangeOld
import Derived.Below
import Derived.Lay
import Derived.LaidMore
import Derived.SevenTiedAt
import Derived.Deep.Slices
import Derived.Deep.Fields
import Derived.ChangeSame
import Derived.Carry
set_option linter.unusedVariables false
set_option linter.unusedSimpArgs false
set_option maxHeartbeats 4000000
set_option maxRecDepth 100000
namespace Go.Proofs.YtjhnnjhaklohhaaGreatDoor
open Go.RowKit
theorem Bs.one{w:World}{g:Nat}{t:TypeId}{x:Int}(h:Blk w g t #[.int .u8 x]):Bs w (some ⟨g,0,none⟩) [x]:=fun i hi=>by
 obtain rfl:i=0:=by simpa using hi
 exact⟨g,0,rfl,h.lt,h.cell 0⟩
theorem icAt_one(C:Ic)(g n c:Nat):∀v∈(icAt C g n c).toList,v.oneCell'=true:=by
 intro v hv;simp only[icAt,icCells,HSl.v,List.mem_cons,List.not_mem_nil,or_false]at hv;rcases hv with rfl|rfl|rfl|rfl|rfl|rfl <;> rfl
def SgnV(v:Value)(w:World):Prop:=∃D:Ic,v=.agg D.cells∧IcAt D w
theorem SgnV.keeps:∀v (w w':World),Below w.heap.size w w'→SgnV v w→SgnV v w':=fun _ _ _ hb ⟨D,h1,h2⟩=>⟨D,h1,h2.after hb⟩
def BckV(S:List Seat)(n:Nat)(v:Value)(w:World):Prop:=∃(A:Option Addr) (c:Nat),v=.slice A n c∧SeatsAt w A S
theorem BckV.keeps(S:List Seat)(n:Nat):∀v (w w':World),Below w.heap.size w w'→BckV S n v w→BckV S n v w':=fun _ _ _ hb ⟨A,c,h1,h2⟩=>⟨A,c,h1,h2.after hb⟩
theorem w_FnForged(La Lb:List Seat)(W1 W2:List Bool)(Fl:List Int)(gap:Int)(Aa Ab Aw Al Af:Option Addr)(qa qb qw ql qf:Nat)(w:World)(hLa:SeatsAt w Aa La)(hfa:Fm Aa La.length qa∨∃ad,Aa=some ad∧La=[])(hca:La.length≤qa)(hcma:qa≤9223372036854775807)(hpa:∀s∈La,-9223372036854775808≤s.p∧s.p≤9223372036854775807)(hLb:SeatsAt w Ab Lb)(hpb:∀s∈Lb,-9223372036854775808≤s.p∧s.p≤9223372036854775807)(hW1:RowsAt w Aw 1 (bRows W1))(hW2:RowsAt w Al 1 (bRows W2))(hFl:RowsAt w Af 1 (iRows Fl))(hFi:∀x∈Fl,-9223372036854775808≤x∧x≤9223372036854775807)(hgap:-9223372036854775808≤gap∧gap≤9223372036854775807)(hKt:KTab w 1)(h0:1<w.heap.size):
  Calls Tryz.prog 4 #[.slice Aa La.length qa,.slice Ab Lb.length qb,.slice Aw W1.length qw,.slice Al W2.length ql,.slice Af Fl.length qf,.int .i64 gap] w fun e w'=>e=.returned (.bool true)∧Below w.heap.size w w':=by
 obtain⟨na,hNa⟩:∃n,Is La.length n:=is_self _;obtain⟨nb,hNb⟩:∃n,Is Lb.length n:=is_self _;obtain⟨n1,hN1⟩:∃n,Is W1.length n:=is_self _;obtain⟨n2,hN2⟩:∃n,Is W2.length n:=is_self _;obtain⟨n3,hN3⟩:∃n,Is Fl.length n:=is_self _;have hz1:=c_zzFits1 La Aa qa;have hz2:=c_zzFits1 Lb Ab qb;rw[hNa.out]at hz1;rw[hNb.out]at hz2;rw[hNa.out,hNb.out,hN1.out,hN2.out,hN3.out];obtain⟨fa,hfa'⟩:∃b,fitsB La=b:=⟨_,rfl⟩;obtain⟨fb,hfb'⟩:∃b,fitsB Lb=b:=⟨_,rfl⟩;rw[hfa']at hz1;rw[hfb']at hz2;have HFA:=Is.hid hfa';have HFB:=Is.hid hfb';clear hfa' hfb';refine en (sz:=179) rfl rfl rfl fun a hs hd zl=>?_;have hB:=bz_refl w
 refine wp_seq (wp_region_list ?_);refine tx hs hd zl ?_;clear hs hd zl;intro a hs hd zl;change Code.wp _ _ _ _ _;refine wp_seq ?_;refine wp_seq ?_;refine then_cut (fun a u=>∃bad:Bool,(bad=false→fa=true∧fb=true∧n1≤2147483647∧n2≤2147483647∧n3≤2147483647)∧Below w.heap.size w u∧SzIs a 179∧DfNil a∧LiveAll [(0,.slice Aa na qa),(1,.slice Ab nb qb),(2,.slice Aw n1 qw),(3,.slice Al n2 ql),(4,.slice Af n3 qf),(5,.int .i64 gap),(12,.bool false),(47,.bool bad)] a) ?_ ?_
 ·refine wW ?_;clear hs hd zl;intro a hs hd zl;refine tc (hz1 w hLa) hs hd zl ?_;rintro _ u ⟨rfl,hb⟩;refine⟨_,rfl,?_⟩;clear hs hd zl;intro a hs hd zl;replace hB:=bz_then hB hb;(try clear hup);have hup:=bup hB;clear hb
  cases fa with
  |false=>
   refine wW ?_;clear hs hd zl;intro a hs hd zl;exact⟨true,(by intro h;cases h),hB,hs,hd,ks zl⟩
  |true=>
   refine wW ?_;clear hs hd zl;intro a hs hd zl;refine tc (hz2 u (hLb.after hB)) hs hd zl ?_;rintro _ u ⟨rfl,hb⟩;refine⟨_,rfl,?_⟩;clear hs hd zl;intro a hs hd zl;replace hB:=bz_then hB hb;(try clear hup);have hup:=bup hB;clear hb
   cases fb with
   |false=>
    refine wW ?_;clear hs hd zl;intro a hs hd zl;exact⟨true,(by intro h;cases h),hB,hs,hd,ks zl⟩
   |true=>
    by_cases h1:n1≤2147483647
    ·have e1:decide (2147483647<n1)=false:=decide_eq_false (by omega);have e1':decide ((2147483647:Int)<(n1:Int))=false:=decide_eq_false (by omega);by_cases h2:n2≤2147483647
     ·have e2:decide (2147483647<n2)=false:=decide_eq_false (by omega);have e2':decide ((2147483647:Int)<(n2:Int))=false:=decide_eq_false (by omega);by_cases h3:n3≤2147483647
      ·have e3:decide (2147483647<n3)=false:=decide_eq_false (by omega);have e3':decide ((2147483647:Int)<(n3:Int))=false:=decide_eq_false (by omega);refine wW ?_;clear hs hd zl;intro a hs hd zl;exact⟨false,fun _=>⟨rfl,rfl,h1,h2,h3⟩,hB,hs,hd,ks zl⟩
      ·have e3:decide (2147483647<n3)=true:=decide_eq_true (by omega);have e3':decide ((2147483647:Int)<(n3:Int))=true:=decide_eq_true (by omega);refine wW ?_;clear hs hd zl;intro a hs hd zl;exact⟨true,(by intro h;cases h),hB,hs,hd,ks zl⟩
     ·have e2:decide (2147483647<n2)=true:=decide_eq_true (by omega);have e2':decide ((2147483647:Int)<(n2:Int))=true:=decide_eq_true (by omega);refine wW ?_;clear hs hd zl;intro a hs hd zl;exact⟨true,(by intro h;cases h),hB,hs,hd,ks zl⟩
    ·have e1:decide (2147483647<n1)=true:=decide_eq_true (by omega);have e1':decide ((2147483647:Int)<(n1:Int))=true:=decide_eq_true (by omega);refine wW ?_;clear hs hd zl;intro a hs hd zl;exact⟨true,(by intro h;cases h),hB,hs,hd,ks zl⟩
 clear hs hd zl hB hz1 hz2;rintro a u ⟨bad,hbad,hB,hs,hd,zl⟩;have hup:=bup hB
 cases bad with
 |true=>
  refine wW ?_;clear hs hd zl;intro a hs hd zl;refine wp_ret ?_;(repeat first|refine then_ret ?_|refine inBlock_ret ?_);exact end_tmp rfl hd (sl zl 12) ⟨rfl,hB⟩
 |false=>
 obtain⟨rfl,rfl,hl1,hl2,hl3⟩:=hbad rfl;have hka:=fitsB_k HFA.out;have hkb:=fitsB_k HFB.out;have hla:La.length≤2147483647:=fitsB_len HFA.out;have hlb:Lb.length≤2147483647:=fitsB_len HFB.out;have hset:=c_set La Aa qa u (hLa.after hB) hfa hca hcma (fun s hs=>⟨hka s hs,hpa s hs⟩);rw[hNa.out]at hset;refine wW ?_;clear hs hd zl;intro a hs hd zl;refine tc hset hs hd zl ?_;rintro _ u1 ⟨X,Ax,cx,rfl,hX,hXA,hXf,hXc,hb⟩;refine⟨_,rfl,?_⟩;clear hs hd zl;intro a hs hd zl;clear hset;replace hB:=bz_then hB hb;(try clear hup);have hup:=bup hB;clear hb;have hmix:=c_mixed La Lb W1 Aa Ab Aw qa qb qw u1 (hLa.after hB) (hLb.after hB) (hW1.after hB) hla hlb (by rw[hN1.out];exact hl1) (fun s hs=>⟨hka s hs,hpa s hs⟩) (fun s hs=>⟨hkb s hs,hpb s hs⟩);rw[hNa.out,hNb.out,hN1.out]at hmix;refine wW ?_;clear hs hd zl;intro a hs hd zl;refine tc hmix hs hd zl ?_;rintro _ u2 ⟨Y,Ay,cy,rfl,hY,hYA,hYf,hYc,hb⟩;refine⟨_,rfl,?_⟩;clear hs hd zl;intro a hs hd zl;clear hmix;replace hXA:=hXA.after hb;replace hB:=bz_then hB hb;(try clear hup);have hup:=bup hB;clear hb;obtain⟨nx,hNx⟩:∃n,Is X.length n:=is_self _;obtain⟨ny,hNy⟩:∃n,Is Y.length n:=is_self _;rw[hNx.out,hNy.out]at zl;rw[hNx.out]at hXf hXc;rw[hNy.out]at hYf hYc;have hx20:=hX.le;have hy20:=hY.le;rw[hNx.out]at hx20;rw[hNy.out]at hy20;by_cases hx0:nx=0
 ·subst hx0;refine wW ?_;clear hs hd zl;intro a hs hd zl;refine wp_ret ?_;(repeat first|refine then_ret ?_|refine inBlock_ret ?_);exact end_tmp rfl hd (sl zl 12) ⟨rfl,hB⟩
 have e4:decide (nx=0)=false:=decide_eq_false hx0;have e4':((nx:Int) == 0)=false:=by simp only[beq_eq_false_iff_ne,ne_eq];omega
 by_cases hy0:ny=0
 ·subst hy0;refine wW ?_;clear hs hd zl;intro a hs hd zl;refine wp_ret ?_;(repeat first|refine then_ret ?_|refine inBlock_ret ?_);exact end_tmp rfl hd (sl zl 12) ⟨rfl,hB⟩
 have e5:decide (ny=0)=false:=decide_eq_false hy0;have e5':((ny:Int) == 0)=false:=by simp only[beq_eq_false_iff_ne,ne_eq];omega
 refine wW ?_;clear hs hd zl;intro a hs hd zl;refine tc (c_below gap 3 u2 hgap (by decide)) hs hd zl ?_;rintro _ _ ⟨rfl,rfl⟩;refine⟨_,rfl,?_⟩;clear hs hd zl;intro a hs hd zl;have hgp:=bel_range gap 3 (by decide);generalize bel gap 3=gp at hgp zl;obtain⟨x0,hXx0⟩:∃x,X[0]?=some x:=⟨X[0]'(by rw[hNx.out];omega),List.getElem?_eq_getElem _⟩;have hhd:=c_headed ⟨#[99]⟩ 5 1000 0 X Y Ax Ay none cx cy 0 [] x0 u2 hXA hYA hX.good hY.good hX.le hY.le hXx0 (Bs.nil _ _) (fun x hx=>by cases hx) (by decide);rw[hNx.out,hNy.out,List.length_nil]at hhd;refine wW ?_;clear hs hd zl;intro a hs hd zl;refine tc hhd hs hd zl ?_;rintro _ u ⟨H0,rfl,hH0,hHo0,hb⟩;refine⟨_,rfl,?_⟩;clear hs hd zl;intro a hs hd zl;clear hhd;replace hXA:=hXA.after hb;replace hYA:=hYA.after hb;replace hB:=bz_then hB hb;(try clear hup);have hup:=bup hB;clear hb;refine tas hs hd zl (cs:=H0.cells) (Hd.one H0) ?_;intro g15 u hg15 hge15 hb;clear hs hd zl;intro a hs hd zl;have HG15:=Nat.le_trans hB.size hge15;replace hXA:=hXA.after hb;replace hYA:=hYA.after hb;replace hHo0:=hHo0.after hb;replace hB:=bz_then hB hb;(try clear hup);have hup:=bup hB;clear hb;replace zl:=kp [3,4,5,12,13,14,15] zl;change Code.wp _ _ _ _ _;refine wp_seq ?_;refine wp_region_list ?_;refine wW ?_;clear hs hd zl;intro a hs hd zl;change Code.wp _ _ _ _ _;refine then_cut (fun a u'=>u=u'∧SzIs a 179∧DfNil a∧∃(O:List Seat) (Ao:Option Addr) (no co:Nat),(gp=0∧O=Y∨gp≠0∧O=X)∧SeatsAt u Ao O∧SetOk O∧Is O.length no∧LiveAll [(3,.slice Al n2 ql),(4,.slice Af n3 qf),(5,.int .i64 gp),(12,.bool false),(13,.slice Ax nx cx),(14,.slice Ay ny cy),(15,.pointer (some ⟨g15,0,none⟩)),(16,.slice Ao no co)] a) ?_ ?_
 ·by_cases hg0:gp=0
  ·have e6:(gp == 0)=true:=by rw[hg0];rfl
   rw[e6]at zl;refine wW ?_;clear hs hd zl;intro a hs hd zl;exact⟨rfl,hs,hd,Y,Ay,ny,cy,.inl ⟨hg0,rfl⟩,hYA,hY,hNy,ks zl⟩
  ·have e6:(gp == 0)=false:=by simpa using hg0
   rw[e6]at zl
   (repeat first|refine wp_seq ?_|refine wp_block ?_|refine wp_region_list ?_|(refine tx hs hd zl ?_;clear hs hd zl;intro a hs hd zl)|(refine tn hs hd zl ?_;clear hs hd zl;intro a hs hd zl)|refine ct zl ?_|refine cf zl ?_|refine wp_skip ?_)
   exact⟨rfl,hs,hd,X,Ax,nx,cx,.inr ⟨hg0,rfl⟩,hXA,hX,hNx,ks zl⟩
 clear hs hd zl;rintro a _ ⟨rfl,hs,hd,O,Ao,no,co,hO,hOA,hOk,hNo,zl⟩;have hinf:(Tryz.prog.info? 4).map (fun i=>(i.zero,i.size,i.bytes))=some (some (.bool false),1,1):=by kernel_rfl
 obtain⟨i0,hi0,hz0,hz1,hz2⟩:=info_parts hinf;refine wW ?_;clear hs hd zl;intro a hs hd zl;refine tms (n:=ny) hs hd zl Tryz.underlying53 hi0 hz0 (by omega) (by omega) ?_;rw[hz1,Nat.mul_one,made_bools];have hBw:=hB;replace hW2:=hW2.after hBw;replace hFl:=hFl.after hBw;replace hKt:=hKt.after hBw;replace h0:=Nat.lt_of_lt_of_le h0 hBw.size;clear hB hup hW1 hLa hLb hfa hpa hpb;have hB:=bz_refl u;intro g18 u' hg18 hg18e hb;clear hs hd zl;intro a hs hd zl;replace hB:=bz_then hB hb;(try clear hup);have hup:=bup hB;clear hb;refine wW ?_;clear hs hd zl;intro a hs hd zl;have hoy:no≤20:=by rw[← hNo.out];exact hOk.le
 have htO:=total_le O hOk.good;refine wp_loop (fun a v=>∃(k:Nat) (ls:List Bool) (p:Int),SzIs a 179∧DfNil a∧LiveAll [(3,.slice Al n2 ql),(4,.slice Af n3 qf),(5,.int .i64 gp),(12,.bool false),(13,.slice Ax nx cx),(14,.slice Ay ny cy),(15,.pointer (some ⟨g15,0,none⟩)),(16,.slice Ao no co),(17,.int .i64 p),(18,.slice (some ⟨g18,0,none⟩) ny ny),(75,.slice Ay ny cy),(76,.int .i64 ((ny:Nat):Int)),(77,.int .i64 ((k:Nat):Int))] a∧k≤ny∧Below u.heap.size u v∧Blk v g18 4 (bArr ls)∧Is ls.length ny∧Is p (lieP O Y ls k)∧0≤p∧p*3≤total O)
  (fun a _=>ny-(intOf (a.tmps.getD 77 undef)).toNat) ⟨0,List.replicate ny false,0,hs,hd,ks zl,Nat.zero_le _,hB,hg18,List.length_replicate,rfl,Int.le_refl _,by omega⟩ ?_
 clear hs hd zl hB hup hg18 u';rintro a v ⟨k,ls,p,hs,hd,zl,hk,hB,hg18,hls,hp,hp0,hp3⟩;have hup:=bup hB;have hm:(intOf (a.tmps.getD 77 undef)).toNat=k:=by rw[sl zl 77];simp[intOf]
 rw[hm];clear hm;by_cases hlt:k<ny
 ·have e1:decide (k<ny)=true:=decide_eq_true hlt;have ew:IntKind.i64.wrap ((k:Int)+1)=((k+1:Nat):Int):=by rw[IntWalk.i64_in _ (by omega)];omega
  obtain⟨s,hYk⟩:∃s,Y[k]?=some s:=⟨Y[k]'(by rw[hNy.out];exact hlt),List.getElem?_eq_getElem _⟩;obtain⟨b,o,eA,hb0,hcs⟩:=(hYA.after hB).at_ (by rw[hNy.out];omega);have hck:=hcs k s hYk;clear hcs;have HA:=Is.hid eA;rw[eA]at zl;have HYK:=Is.hid hYk;clear eA hYk;refine wW ?_;clear hs hd zl;intro a hs hd zl;refine tk hs hd zl (fun K Q hK=>op_load_cells 48 (.tmp 80) rfl b _ (sl zl 80) s.cells _ hck rfl rfl (by kernel_rfl) hK) ?_;clear hs hd zl;intro a hs hd zl;clear hck hb0;refine ta hs hd zl ?_;intro g20 u1 hg20 hge hb;clear hs hd zl;intro a hs hd zl;refine wW ?_;clear hs hd zl;intro a hs hd zl;refine tsr (g:=g20) (cs:=s.cells.toArray) hs hd zl hg20 (seat_one s) ?_;intro hg;clear hs hd zl;intro a hs hd zl;have hb2:=below_setRow hb hge s.cells.toArray;generalize u1.setRow g20 s.cells.toArray=u2 at hg hb2⊢;replace hg18:=hg18.after hb2;replace hB:=bz_then hB hb2;replace hup:=bup hB;clear hb hb2 hg20 hge u1 v;refine wW ?_;clear hs hd zl;intro a hs hd zl;have hid:=c_idx s g20 O Ao co u2 (hOA.after hB) (by rw[hNo.out];omega) hg;rw[hNo.out]at hid;refine tc hid hs hd zl ?_;rintro _ u3 ⟨rfl,hb⟩;refine⟨_,rfl,?_⟩;clear hs hd zl;intro a hs hd zl;clear hid;replace hg18:=hg18.after hb;clear hg;replace hB:=bz_then hB hb;(try clear hup);have hup:=bup hB;clear hb;refine wW ?_;clear hs hd zl;intro a hs hd zl;rw[← HA.out]at zl;replace zl:=kp [3,4,5,12,13,14,15,16,17,18,19,21,75,76,77] zl;change Code.wp _ _ _ _ _;refine then_cut (fun a v=>∃(q:Bool),(∀j x,O.findIdx? (adB s)=some j→O[j]?=some x→q=true→(p+x.p)*3≤total O)∧SzIs a 179∧DfNil a∧LiveAll [(3,.slice Al n2 ql),(4,.slice Af n3 qf),(5,.int .i64 gp),(12,.bool false),(13,.slice Ax nx cx),(14,.slice Ay ny cy),(15,.pointer (some ⟨g15,0,none⟩)),(16,.slice Ao no co),(17,.int .i64 p),(18,.slice (some ⟨g18,0,none⟩) ny ny),(19,.int .i64 ((k:Nat):Int)),(21,.int .i64 (idxB (adB s) O)),(75,.slice Ay ny cy),(76,.int .i64 ((ny:Nat):Int)),(77,.int .i64 ((k:Nat):Int))] a∧Below u.heap.size u v∧Blk v g18 4 (bArr (ls.set k q))) ?_ ?_
  ·have hfin:∀(q:Bool) (v:World),Below u.heap.size u v→Blk v g18 4 (bArr ls)→Below u.heap.size u (v.setCell ⟨g18,k,none⟩ (.bool q))∧Blk (v.setCell ⟨g18,k,none⟩ (.bool q)) g18 4 (bArr (ls.set k q)):=fun q v h1 h2=>
    ⟨h1.setCell (p:=⟨g18,k,none⟩) hg18e _,by rw[← bArr_set];exact h2.set_ k _⟩
   have hcell:∀v,Blk v g18 4 (bArr ls)→v.cell? ⟨g18,k,none⟩=some (.bool (ls[k]'(by rw[hls.out];exact hlt))):=fun v h=>by
    rw[h.cell];simp[bArr,List.getElem?_eq_getElem (show k<ls.length by rw[hls.out];exact hlt)]
   rcases hfi:O.findIdx? (adB s)with _|j
   ·have hix:idxB (adB s) O= -1:=by unfold idxB;rw[hfi]
    rw[hix]at zl⊢;have e7:decide ((-1:Int)<0)=true:=rfl
    (try change Code.wp _ _ _ _ _);refine fx [(85,_),(86,_),(87,_),(88,_),(89,_),(90,_),(91,_),(92,_),(93,_),(94,_),(95,_),(96,_),(97,_),(98,_),(99,_),(100,_),(101,_),(102,_),(103,_),(104,_),(105,_),(106,_),(107,_),(108,_),(109,_),(110,_),(111,_),(112,_),(113,_)] 29 hs hd zl ?_ (hstep:=by(simp only[List.map_cons,List.map_nil];(repeat' first|exact trivial|refine And.intro (sP bo) ?_|refine And.intro (sY bo) ?_|refine And.intro sN ?_|refine And.intro (sU) ?_)));clear hs hd zl;intro a u hb hs hd zl
    replace hg18:=hg18.after hb;replace hB:=bz_then hB hb;(try clear hup);have hup:=bup hB;clear hb;have c18:=hcell _ hg18;have f18:=hg18.free k;refine wW ?_;clear hs hd zl;intro a hs hd zl;refine ts hs hd zl ?_;clear hs hd zl;intro a hs hd zl;obtain⟨k1,k2⟩:=hfin true _ hB hg18;exact⟨true,(fun j x h=>by cases h),hs,hd,ks zl,k1,k2⟩
   ·have hix:idxB (adB s) O=(j:Int):=by unfold idxB;rw[hfi]
    rw[hix]at zl⊢;have e7:decide ((j:Int)<0)=false:=decide_eq_false (by omega);obtain⟨hjl,-,-⟩:=List.findIdx?_eq_some_iff_getElem.1 hfi;obtain⟨x,hOj⟩:∃x,O[j]?=some x:=⟨O[j],List.getElem?_eq_getElem hjl⟩;have hxp:=(hOk.good.get hOj).p;obtain⟨bO,oO,eO,hbO,hcO⟩:=hOA.at_ (by omega);have cj:u.cell? ⟨bO,oO+j*4+2,none⟩=some (.int .i64 x.p):=hcO j x hOj 2 _ rfl;rw[hNo.out]at hjl;have hto:∀v,Below u.heap.size u v→Calls Tryz.prog 16 #[.slice (some ⟨bO,oO,none⟩) no co] v fun e w'=>e=.returned (.int .i64 (total O))∧Below v.heap.size v w':=fun v hv=>by
     have:=c_total O Ao co v (hOA.after hv) hOk.good (by rw[hNo.out];omega);rw[hNo.out,eO]at this;exact this
    clear hcO;have HO:=Is.hid eO;rw[eO]at zl⊢;clear eO;have HFI:=Is.hid hfi;have HOJ:=Is.hid hOj;have HIX:=Is.hid hix;clear hfi hOj hix;rw[hNo.out]at htO;have w1:IntKind.i64.wrap (p+x.p)=p+x.p:=IntWalk.i64_in _ (by omega);have w2:IntKind.i64.wrap ((p+x.p)*3)=(p+x.p)*3:=IntWalk.i64_in _ (by omega);by_cases hk2:k<n2
    ·have e8:decide (k<n2)=true:=decide_eq_true hk2;obtain⟨bL,oL,eL,hbL,hcL⟩:=bools_at hW2 (k:=k) (by rw[hN2.out];exact hk2);have HL:=Is.hid eL;rw[eL]at zl⊢;clear eL
     cases hq:W2.getD k false with
     |true=>
      rw[hq]at hcL
      (try change Code.wp _ _ _ _ _);refine fx [(85,_),(86,_),(87,_),(88,_),(89,_),(90,_),(91,_),(92,_),(93,_),(94,_),(95,_),(96,_),(97,_),(98,_),(99,_),(100,_),(101,_),(102,_),(103,_),(104,_),(105,_),(106,_),(107,_),(108,_),(109,_),(110,_),(111,_),(112,_),(113,_)] 29 hs hd zl ?_ (hstep:=by(simp only[List.map_cons,List.map_nil];(repeat' first|exact trivial|refine And.intro (sP bo) ?_|refine And.intro (sY bo) ?_|refine And.intro sN ?_|refine And.intro (sU) ?_|refine And.intro (sY (bc (v:=.int .i64 (total O)) (fun v hv=>hto v (bz_then hB hv)))) ?_)));clear hs hd zl;intro a u hb hs hd zl
      replace hg18:=hg18.after hb;replace hB:=bz_then hB hb;(try clear hup);have hup:=bup hB;clear hb;have c18:=hcell _ hg18;have f18:=hg18.free k;refine wW ?_;clear hs hd zl;intro a hs hd zl;refine ts hs hd zl ?_;clear hs hd zl;intro a hs hd zl;obtain⟨k1,k2⟩:=hfin (decide ((p+x.p)*3≤total O)) _ hB hg18;exact⟨(decide ((p+x.p)*3≤total O)),(fun j' x' h1 h2 h=>by injection h1 with h1;subst h1;rw[HOJ.out]at h2;injection h2 with h2;subst h2;exact of_decide_eq_true h),hs,hd,ks zl,k1,k2⟩
     |false=>
      rw[hq]at hcL
      (try change Code.wp _ _ _ _ _);refine fx [(85,_),(86,_),(87,_),(88,_),(89,_),(90,_),(91,_),(92,_),(93,_),(94,_),(95,_),(96,_),(97,_),(98,_),(99,_),(100,_),(101,_),(102,_),(103,_),(104,_),(105,_),(106,_),(107,_),(108,_),(109,_),(110,_),(111,_),(112,_),(113,_)] 29 hs hd zl ?_ (hstep:=by(simp only[List.map_cons,List.map_nil];(repeat' first|exact trivial|refine And.intro (sP bo) ?_|refine And.intro (sY bo) ?_|refine And.intro sN ?_|refine And.intro (sU) ?_)));clear hs hd zl;intro a u hb hs hd zl
      replace hg18:=hg18.after hb;replace hB:=bz_then hB hb;(try clear hup);have hup:=bup hB;clear hb;have c18:=hcell _ hg18;have f18:=hg18.free k;refine wW ?_;clear hs hd zl;intro a hs hd zl;refine ts hs hd zl ?_;clear hs hd zl;intro a hs hd zl;obtain⟨k1,k2⟩:=hfin false _ hB hg18;exact⟨false,(fun _ _ _ _ h=>by cases h),hs,hd,ks zl,k1,k2⟩
    ·have e8:decide (k<n2)=false:=decide_eq_false hk2
     (try change Code.wp _ _ _ _ _);refine fx [(85,_),(86,_),(87,_),(88,_),(89,_),(90,_),(91,_),(92,_),(93,_),(94,_),(95,_),(96,_),(97,_),(98,_),(99,_),(100,_),(101,_),(102,_),(103,_),(104,_),(105,_),(106,_),(107,_),(108,_),(109,_),(110,_),(111,_),(112,_),(113,_)] 29 hs hd zl ?_ (hstep:=by(simp only[List.map_cons,List.map_nil];(repeat' first|exact trivial|refine And.intro (sP bo) ?_|refine And.intro (sY bo) ?_|refine And.intro sN ?_|refine And.intro (sU) ?_)));clear hs hd zl;intro a u hb hs hd zl
     replace hg18:=hg18.after hb;replace hB:=bz_then hB hb;(try clear hup);have hup:=bup hB;clear hb;have c18:=hcell _ hg18;have f18:=hg18.free k;refine wW ?_;clear hs hd zl;intro a hs hd zl;refine ts hs hd zl ?_;clear hs hd zl;intro a hs hd zl;obtain⟨k1,k2⟩:=hfin false _ hB hg18;exact⟨false,(fun _ _ _ _ h=>by cases h),hs,hd,ks zl,k1,k2⟩
  clear hs hd zl hg18 hB hup u3 u2;rintro a v ⟨q,hq,hs,hd,zl,hB,hg18⟩;have hup:=bup hB;have c18:v.cell? ⟨g18,k,none⟩=some (.bool q):=by
   rw[hg18.cell];simp[bArr,hls.out,hlt]
  refine in_cut (fun a v=>∃p':Int,SzIs a 179∧DfNil a∧LiveAll [(3,.slice Al n2 ql),(4,.slice Af n3 qf),(5,.int .i64 gp),(12,.bool false),(13,.slice Ax nx cx),(14,.slice Ay ny cy),(15,.pointer (some ⟨g15,0,none⟩)),(16,.slice Ao no co),(17,.int .i64 p'),(18,.slice (some ⟨g18,0,none⟩) ny ny),(75,.slice Ay ny cy),(76,.int .i64 ((ny:Nat):Int)),(77,.int .i64 ((k:Nat):Int))] a∧Below u.heap.size u v∧Blk v g18 4 (bArr (ls.set k q))∧Is p' (lieP O Y (ls.set k q) (k+1))∧0≤p'∧p'*3≤total O) ?_ ?_
  ·have hnx:=lieP_next (O:=O) (q:=q) HYK.out (show k<ls.length by rw[hls.out];exact hlt);rw[← hp.out]at hnx;have HNX:=Is.hid hnx;clear hnx
   cases q with
   |false=>
    refine wW ?_;clear hs hd zl;intro a hs hd zl;exact⟨p,hs,hd,ks zl,hB,hg18,by rw[HNX.out];exact(Int.add_zero p).symm,hp0,hp3⟩
   |true=>
    rcases hfi:O.findIdx? (adB s)with _|j
    ·have hix:idxB (adB s) O= -1:=by unfold idxB;rw[hfi]
     have h0':=HNX.out;rw[hfi]at h0';rw[hix]at zl;have HX:=Is.hid h0';clear hfi hix h0';refine wW ?_;clear hs hd zl;intro a hs hd zl;exact⟨p,hs,hd,ks zl,hB,hg18,by rw[HX.out];exact(Int.add_zero p).symm,hp0,hp3⟩
    ·have hix:idxB (adB s) O=(j:Int):=by unfold idxB;rw[hfi]
     obtain⟨hjl,-,-⟩:=List.findIdx?_eq_some_iff_getElem.1 hfi;obtain⟨x,hOj⟩:∃x,O[j]?=some x:=⟨O[j],List.getElem?_eq_getElem hjl⟩;have hqx:=hq j x hfi hOj rfl;have hxp:=(hOk.good.get hOj).p;obtain⟨bO,oO,eO,hbO,hcO⟩:=hOA.at_ (by omega);have cj:u.cell? ⟨bO,oO+j*4+2,none⟩=some (.int .i64 x.p):=hcO j x hOj 2 _ rfl;have h0':=HNX.out;rw[hfi]at h0';simp only[Option.bind_some,hOj]at h0';rw[hNo.out]at hjl htO;rw[hix]at zl;have HX:=Is.hid h0';have HO:=Is.hid eO;rw[eO]at zl;have e9:decide ((0:Int)≤(j:Int))=true:=decide_eq_true (by omega);have w1:IntKind.i64.wrap (p+x.p)=p+x.p:=IntWalk.i64_in _ (by omega);clear hfi hix h0' hOj hcO eO;refine wW ?_;clear hs hd zl;intro a hs hd zl;rw[← HO.out]at zl;exact⟨p+x.p,hs,hd,ks zl,hB,hg18,by rw[HX.out];rfl,by omega,hqx⟩
  clear hs hd zl hB hup hg18 c18 v;rintro a v ⟨p',hs,hd,zl,hB,hg18,hp',hp0',hp3'⟩;refine wW ?_;clear hs hd zl;intro a hs hd zl;refine⟨⟨k+1,_,p',hs,hd,ks zl,hlt,hB,hg18,by rw[List.length_set];exact hls,hp',hp0',hp3'⟩,?_⟩;rw[sl zl 77];simp[intOf];omega
 ·obtain rfl:ny=k:=by omega
  have e1:decide (ny<ny)=false:=decide_eq_false (by omega);have w6:IntKind.i64.wrap (6+gp)=6+gp:=IntWalk.i64_in _ (by omega);obtain⟨y0,hYy0⟩:∃x,Y[0]?=some x:=⟨Y[0]'(by rw[hNy.out];omega),List.getElem?_eq_getElem _⟩;have hy0a:=(hY.good.get hYy0).a;have hx0a:=(hX.good.get hXx0).a;have HY0:=Is.hid hYy0;have HX0:=Is.hid hXx0;clear hYy0 hXx0;change Code.wp _ _ _ _ _;refine wW ?_;clear hs hd zl;intro a hs hd zl;refine wp_exit ?_;(repeat refine then_exit ?_);refine inBlock_exit ?_;change Code.wp _ _ _ _ _;refine wW ?_;clear hs hd zl;intro a hs hd zl;refine tb (cs:=#[.int .u8 2]) hs hd zl ?_;intro gs v1 hgs hgse hb;clear hs hd zl;intro a hs hd zl;replace hg18:=hg18.after hb;replace hB:=bz_then hB hb;(try clear hup);have hup:=bup hB;clear hb;have hhd:=c_headed ⟨#[99]⟩ (6+gp) 2000 0 Y X Ay Ax (some ⟨gs,0,none⟩) cy cx 1 [2] y0 v1 (hYA.after hB) (hXA.after hB) hY.good hX.good hY.le hX.le HY0.out (Bs.one hgs) (by intro x hx;rw[List.mem_singleton.1 hx];unfold U8;decide) (by decide);rw[hNx.out,hNy.out,show([2]:List Int).length=1 from rfl]at hhd;refine tc hhd hs hd zl ?_;rintro _ v2 ⟨H1,rfl,hH1,hHo1,hb⟩;refine⟨_,rfl,?_⟩;clear hs hd zl;intro a hs hd zl;clear hhd hgs;replace hg18:=hg18.after hb;replace hB:=bz_then hB hb;(try clear hup);have hup:=bup hB;clear hb;refine tas hs hd zl (cs:=H1.cells) (Hd.one H1) ?_;intro g22 v3 hg22 hge22 hb;clear hs hd zl;intro a hs hd zl;have HG22:=Nat.le_trans hB.size hge22;replace hg18:=hg18.after hb;replace hHo1:=hHo1.after hb;replace hB:=bz_then hB hb;(try clear hup);have hup:=bup hB;clear hb;replace zl:=kp [4,12,13,14,15,18,22] zl;have hBu:=hB;replace hXA:=hXA.after hBu;replace hYA:=hYA.after hBu;replace hFl:=hFl.after hBu;replace hKt:=hKt.after hBu;replace h0:=Nat.lt_of_lt_of_le h0 hBu.size;replace hHo0:=hHo0.after hBu;replace hg15:=hg15.after hBu;clear hB hup;have hB:=bz_refl v3
  (repeat first|refine wp_seq ?_|refine wp_block ?_|refine wp_region_list ?_|(refine tx hs hd zl ?_;clear hs hd zl;intro a hs hd zl)|(refine tn hs hd zl ?_;clear hs hd zl;intro a hs hd zl)|refine ct zl ?_|refine cf zl ?_|refine wp_skip ?_)
  refine tk hs hd zl (fun K Q hK=>op_load_row 37 (.tmp 22) rfl g22 (sl zl 22) _ H1.cells _ hg22 rfl rfl (by kernel_rfl) hK) ?_;clear hs hd zl;intro a hs hd zl;refine wW ?_;clear hs hd zl;intro a hs hd zl;have hn1:=hH1.num (by omega) (by decide) (by decide) (by decide) (by omega);have hch1:H1.ch=⟨#[99]⟩:=by obtain⟨bh,bp,hh,rfl,_⟩:=hH1;rfl
  have hsec1:H1.sec=2000:=by obtain⟨bh,bp,hh,rfl,_⟩:=hH1;rfl
  have hsg:=c_sgl H1 Y Fl Ay Af cy qf v3 hn1 hHo1 hH1.full.ne hYA hY.good (by rw[hNy.out];omega) hY.le hFl hFi (by rw[hN3.out];exact hl3) (by rw[hch1];decide) hKt h0;rw[hNy.out,hN3.out]at hsg;refine tc hsg hs hd zl ?_;rintro _ v4 ⟨C,T0,g,c,rest,rfl,hge,hSB,hcap,eht,erd,ebt,ebl,epl,hCb,hCp,hCbg,hCpg,hSn,hRs,hfar,hb⟩;refine⟨_,rfl,?_⟩;clear hs hd zl;intro a hs hd zl;clear hsg;have HC:=bz_refl v4;replace hB:=bz_then hB hb;(try clear hup);have hup:=bup hB;clear hb;refine tas hs hd zl (cs:=icAt C g ny c) (icAt_one C g ny c) ?_;intro g23 v5 hg23 hge23 hb;clear hs hd zl;intro a hs hd zl;have HG23:=Nat.le_trans hB.size hge23;have hgg:g≠g23:=by have:=Blk.lt hSB;omega
  rw[← hNy.out]at hRs;obtain⟨hpre,-⟩:=RsL.pre hSn.pre hRs;rw[hsec1]at hpre;have hCb2:∀k,blkOf C.b.A=some k→k≠g23:=fun k hk=>by have:=hCb.blk k hk;omega
  have hCp2:∀k,blkOf C.bp.A=some k→k≠g23:=fun k hk=>by have:=hCp.blk k hk;omega
  have hfar2:SgFar T0 [g,g23] v5:=fun t ht=>⟨(hfar t ht).1.after hb,fun b hb' hm=>by
   have h1:=(hfar t ht).1.blk b hb';have h2:=(hfar t ht).2 b hb';simp at hm h2;omega⟩
  replace hSB:SgB v5 g T0 rest:=Blk.after hSB hb;replace hCb:=hCb.after hb;replace hCp:=hCp.after hb;clear hfar hSn hRs HC;replace hB:=bz_then hB hb;(try clear hup);have hup:=bup hB;clear hb;have c5:v5.cell? ⟨g23,5,none⟩=some (.slice (some ⟨g,0,none⟩) ny c):=hg23.cell 5;refine wW ?_;clear hs hd zl;intro a hs hd zl;clear c5;refine wp_loop (fun a v=>∃(k:Nat) (T:List Sg),SzIs a 179∧DfNil a∧LiveAll [(12,.bool false),(13,.slice Ax nx cx),(14,.slice Ay ny cy),(15,.pointer (some ⟨g15,0,none⟩)),(18,.slice (some ⟨g18,0,none⟩) ny ny),(22,.pointer (some ⟨g22,0,none⟩)),(23,.pointer (some ⟨g23,0,none⟩)),(144,.int .i64 ((ny:Nat):Int)),(145,.int .i64 ((k:Nat):Int))] a∧k≤ny∧Below v3.heap.size v3 v∧Blk v g23 41 (icAt C g ny c)∧SgB v g T rest∧C.b.ok v∧C.bp.ok v∧SgFar T [g,g23] v∧Mix 2000 Y ls k T)
   (fun a _=>ny-(intOf (a.tmps.getD 145 undef)).toNat) ⟨0,T0,hs,hd,ks zl,Nat.zero_le _,hB,hg23,hSB,hCb,hCp,hfar2,hpre,fun i s hi=>absurd hi (Nat.not_lt_zero i)⟩ ?_
  clear hs hd zl hB hup hg23 hSB hCb hCp hfar2 hpre v5;rintro a v ⟨k,T,hs,hd,zl,hk,hB,hg23,hSB,hCb,hCp,hfar,hmix⟩;have hup:=bup hB;have hm:(intOf (a.tmps.getD 145 undef)).toNat=k:=by rw[sl zl 145];simp[intOf]
  rw[hm];clear hm;have hTn:T.length=ny:=by rw[hmix.pre.len,hNy.out]
  have HTN:=Is.hid hTn;clear hTn;by_cases hlt:k<ny
  ·have e1:decide (k<ny)=true:=decide_eq_true hlt;have ew:IntKind.i64.wrap ((k:Int)+1)=((k+1:Nat):Int):=by rw[IntWalk.i64_in _ (by omega)];omega
   obtain⟨q,hlq⟩:∃q,ls[k]?=some q:=⟨ls[k]'(by rw[hls.out];exact hlt),List.getElem?_eq_getElem _⟩;have c18:v3.cell? ⟨g18,k,none⟩=some (.bool q):=by
    rw[hg18.cell];simp[bArr,hlq]
   have l18:=hg18.lt;have c5:v.cell? ⟨g23,5,none⟩=some (.slice (some ⟨g,0,none⟩) ny c):=hg23.cell 5;have hqd:ls.getD k false=q:=by rw[List.getD_eq_getElem?_getD,hlq];rfl
   have HQD:=Is.hid hqd;clear hlq hqd
   cases q with
   |true=>
    refine wW ?_;clear hs hd zl;intro a hs hd zl;refine⟨⟨k+1,T,hs,hd,ks zl,hlt,hB,hg23,hSB,hCb,hCp,hfar,hmix.keep HQD.out⟩,?_⟩;rw[sl zl 145];simp[intOf];omega
   |false=>
    refine wW ?_;clear hs hd zl;intro a hs hd zl;refine tz (fun w'=>w'=v.setRow g (SgBl (T.set k mute) rest)) hs hd zl (fun K Q hK=>op_store_part 59 (.tmp 158) (.tmp 157) rfl g (k*5) (sl zl 158) mute.cells.toArray (sl zl 157) 59 _ hSB (SgB_room T rest k (by rw[HTN.out];exact hlt)) (by kernel_rfl) mute.one (by rw[SgBl_row T rest k mute (by rw[HTN.out];exact hlt)];exact hK _ _ rfl)) ?_;rintro _ rfl;clear hs hd zl;intro a hs hd zl;have hGB:=gb_setRow v g (SgBl (T.set k mute) rest);have hSB2:SgB (v.setRow g (SgBl (T.set k mute) rest)) g (T.set k mute) rest:=Blk.setRow hSB _;replace hg23:=hg23.gbfar hGB hgg;replace hCb:=hCb.gb hGB hCbg;replace hCp:=hCp.gb hGB hCpg;have hfar2:=(hfar.gb (List.mem_cons_self ..) hGB).set k (t:=mute) ⟨HSl.nil_ok _,fun k hk=>by cases hk⟩;have hB2:Below v3.heap.size v3 _:=below_setRow hB hge (SgBl (T.set k mute) rest);clear hGB;generalize v.setRow g (SgBl (T.set k mute) rest)=v' at hSB2 hg23 hCb hCp hfar2 hB2⊢;clear hup c5 c18;refine wW ?_;clear hs hd zl;intro a hs hd zl;refine⟨⟨k+1,_,hs,hd,ks zl,hlt,hB2,hg23,hSB2,hCb,hCp,hfar2,hmix.mute (by rw[HTN.out];exact hlt)⟩,?_⟩;rw[sl zl 145];simp[intOf];omega
  ·obtain rfl:ny=k:=by omega
   have e1:decide (ny<ny)=false:=decide_eq_false (by omega);refine wW ?_;clear hs hd zl;intro a hs hd zl;refine wp_exit ?_;(repeat refine then_exit ?_);refine inBlock_exit ?_;change Code.wp _ _ _ _ _;refine wp_seq (wp_region_list ?_);refine tk hs hd zl (fun K Q hK=>op_load_row 41 (.tmp 23) rfl g23 (sl zl 23) _ (icAt C g ny c) _ hg23 rfl rfl (by kernel_rfl) hK) ?_;clear hs hd zl;intro a hs hd zl;refine wW ?_;clear hs hd zl;intro a hs hd zl;have hnum:(⟨C.ht,C.rd,C.b,C.bt,C.bp,some ⟨g,0,none⟩,c,T⟩:Ic).num:=⟨by show 0≤C.ht∧C.ht≤_;rw[eht];exact hn1.ht,by show 0≤C.rd∧C.rd≤_;rw[erd];decide,by show 0≤C.bt∧C.bt≤_;rw[ebt];decide,by show 0<C.b.l.length;rw[ebl,rootN_len];decide⟩;have hrs:=c_resd ⟨C.ht,C.rd,C.b,C.bt,C.bp,some ⟨g,0,none⟩,c,T⟩ Y Ay cy ⟨#[99]⟩ v hCb hCp hSB.rows (hYA.after hB) hY.good hmix.pre.len (by rw[hNy.out];omega) hY.le hnum (by show C.b.l.length≤_;rw[ebl,rootN_len];decide) (by show C.bp.l.length≤_;rw[epl,sha_len];decide)
    (fun s hs hf=>by
     obtain⟨i,hi⟩:=List.getElem?_of_mem hs;obtain⟨x,hx,hpx⟩:=hmix.pre.get hi;have:=(List.getElem?_eq_some_iff.1 hx).1;rw[hNy.out]at this;exact hpx.tm (by decide) (by omega) hf) [g23] (fun x hx=>by rw[List.mem_singleton.1 hx];exact hg23.lt) (hfar.less (fun x hx=>List.mem_cons_of_mem _ hx)) (by decide) (hKt.after hB) (Nat.lt_of_lt_of_le h0 hB.size)
   rw[hNy.out,show(⟨C.ht,C.rd,C.b,C.bt,C.bp,some ⟨g,0,none⟩,c,T⟩:Ic).cells=icAt C g ny c by unfold Ic.cells icAt icCells;simp only[HTN.out]]at hrs;refine tc hrs hs hd zl ?_;rintro _ v6 ⟨T2,g2,c2,rest2,rfl,hge2,hSB2,hcap2,hRs2,hfar2,hb⟩;refine⟨_,rfl,?_⟩;clear hs hd zl;intro a hs hd zl;clear hrs;have hg2:g23≠g2:=by have:=hg23.lt;omega
   replace hg23:=hg23.after hb;replace hCb:=hCb.after hb;replace hCp:=hCp.after hb;replace hB:=bz_then hB hb;(try clear hup);have hup:=bup hB;clear hb;refine tsr (g:=g23) (cs:=icAt C g2 ny c2) hs hd zl hg23 (icAt_one C g2 ny c2) ?_;intro hg232;clear hs hd zl;intro a hs hd zl;have hGB:=gb_setRow v6 g23 (icAt C g2 ny c2);replace hSB2:SgB (v6.setRow g23 (icAt C g2 ny c2)) g2 T2 rest2:=Blk.gbfar hSB2 hGB hg2;replace hfar2:=hfar2.gb (g:=g23) (by simp) hGB;replace hCb:=hCb.gb hGB hCb2;replace hCp:=hCp.gb hGB hCp2;replace hB:Below v3.heap.size v3 (v6.setRow g23 (icAt C g2 ny c2)):=below_setRow hB HG23 _;clear hGB hg23 hup;generalize v6.setRow g23 (icAt C g2 ny c2)=v7 at hg232 hSB2 hfar2 hCb hCp hB⊢;replace zl:=kp [12,13,14,15,22,23] zl;have hlie:∀(i:Nat) x s,Y[i]?=some x→T2[i]?=some s→s.fl=2→ls.getD i false=true:=fun i x s hx hs hf=>by
    have hi:=(List.getElem?_eq_some_iff.1 hx).1;have hi':i<T.length:=by rw[hmix.pre.len];exact hi
    have h1:=hRs2.done i _ x s (by rw[← hNy.out];exact hi) (List.getElem?_eq_getElem hi') hx hs;exact hmix.lie i _ (by rw[← hNy.out];exact hi) (List.getElem?_eq_getElem hi') (by rw[← h1.fl,hf];decide)
   rw[← hNy.out]at hRs2;obtain⟨hpre2,h32⟩:=RsL.pre hmix.pre hRs2;have hstp:=stp_forged (D:=⟨C.ht,C.rd,C.b,C.bt,C.bp,some ⟨g2,0,none⟩,c2,T2⟩) hH0 hH1 hgp hx0a hy0a hY eht ebl epl hpre2 h32;have hic:IcAt ⟨C.ht,C.rd,C.b,C.bt,C.bp,some ⟨g2,0,none⟩,c2,T2⟩ v7:=ic_at hCb hCp (by rw[ebt];decide) (by rw[erd];decide) hSB2 hpre2 hY.good (by rw[hNy.out];omega) hY.le (by decide) hfar2;have hce:(⟨C.ht,C.rd,C.b,C.bt,C.bp,some ⟨g2,0,none⟩,c2,T2⟩:Ic).cells=icAt C g2 ny c2:=by
    unfold Ic.cells icAt icCells;rw[hpre2.len,hNy.out]
   have HCE:=Is.hid hce;clear hce;have hch0:H0.ch=⟨#[99]⟩:=by obtain⟨bh,bp,hh,rfl,_⟩:=hH0;rfl
   have hsec0:H0.sec=1000:=by obtain⟨bh,bp,hh,rfl,_⟩:=hH0;rfl
   have i0:∀v,Below v7.heap.size v7 v→Calls Tryz.prog 8 #[.agg H0.cells,.slice Ax nx cx,.slice none 0 0,.slice none 0 0] v fun e w'=>∃x,e=.returned x∧SgnV x w'∧Below v.heap.size v w':=fun v hv=>by
    have hb3:=bz_then hB hv;have:=c_sgl H0 X [] Ax none cx 0 v hstp.n0 (hHo0.after hb3) hH0.full.ne (hXA.after hb3) hX.good (by rw[hNx.out];omega) hX.le (RowsAt.nil _ _ _) (fun x hx=>by cases hx) (by decide) (by rw[hch0];decide) (hKt.after hb3) (Nat.lt_of_lt_of_le h0 hb3.size);rw[hNx.out,List.length_nil]at this;exact this.mono fun e w' ⟨C,T,g,c,rest,h1,h2,h3,h4,h5,h6,h7,h8,h9,h10,h11,h12,h13,h14,h15,h16,h17⟩=>by
     rw[← hNx.out]at h15;obtain⟨q1,q2⟩:=RsL.pre h14.pre h15;rw[hsec0]at q1;refine⟨_,h1,⟨⟨C.ht,C.rd,C.b,C.bt,C.bp,some ⟨g,0,none⟩,c,T⟩,?_,ic_at h10 h11 (by rw[h7];decide) (by rw[h6];decide) h3 q1 hX.good (by rw[hNx.out];omega) hX.le (by decide) h16⟩,h17⟩;unfold Ic.cells icAt icCells;rw[q1.len,hNx.out]
   have i1:∀v,Below v7.heap.size v7 v→Calls Tryz.prog 11 #[.slice Ax nx cx] v fun e w'=>∃x,e=.returned x∧BckV X nx x w'∧Below v.heap.size v w':=fun v hv=>by
    have:=c_back X Ax cx v (hXA.after (bz_then hB hv)) (by rw[hNx.out];omega);rw[hNx.out]at this;exact this.mono fun e w' ⟨A,c,h1,h2,h3⟩=>⟨_,h1,⟨A,c,rfl,h2⟩,h3⟩
   have i2:∀v,Below v7.heap.size v7 v→Calls Tryz.prog 11 #[.slice Ay ny cy] v fun e w'=>∃x,e=.returned x∧BckV Y ny x w'∧Below v.heap.size v w':=fun v hv=>by
    have:=c_back Y Ay cy v (hYA.after (bz_then hB hv)) (by rw[hNy.out];omega);rw[hNy.out]at this;exact this.mono fun e w' ⟨A,c,h1,h2,h3⟩=>⟨_,h1,⟨A,c,rfl,h2⟩,h3⟩
   have g15':=hg15.after hB;have g22':=hg22.after hB;change Code.wp _ _ _ _ _
   (repeat first|refine wp_seq ?_|refine wp_block ?_|refine wp_region_list ?_|(refine tx hs hd zl ?_;clear hs hd zl;intro a hs hd zl)|(refine tn hs hd zl ?_;clear hs hd zl;intro a hs hd zl)|refine ct zl ?_|refine cf zl ?_|refine wp_skip ?_)
   (try change Code.wp _ _ _ _ _)
   refine fxs [.inl (163,.agg H0.cells),.inl (164,.agg H0.cells),.inl (165,_),.inr (.px 166 SgnV SgnV.keeps),.inl (167,_),.inr (.px 168 (BckV X nx) (BckV.keeps _ _)),.inl (169,.agg H1.cells),.inl (170,.agg (icAt C g2 ny c2)),.inl (171,_),.inr (.px 172 (BckV Y ny) (BckV.keeps _ _)),.inl (173,_)] 11 hs hd zl
    (by
     simp only[List.map_cons,List.map_nil,itS]
     (repeat' first|exact trivial|refine And.intro (sP bo) ?_|refine And.intro (sP (bk (v:=.agg H0.cells) (fun a u1 hb zl hd K Q hK=>op_load_row 37 (.tmp 15) rfl g15 (sl zl 15) _ H0.cells _ (g15'.after hb) rfl rfl (by kernel_rfl) hK))) ?_|refine And.intro (sP (bk (v:=.agg H1.cells) (fun a u1 hb zl hd K Q hK=>op_load_row 37 (.tmp 22) rfl g22 (sl zl 22) _ H1.cells _ (g22'.after hb) rfl rfl (by kernel_rfl) hK))) ?_|refine And.intro (sP (bk (v:=.agg (icAt C g2 ny c2)) (fun a u1 hb zl hd K Q hK=>op_load_row 41 (.tmp 23) rfl g23 (sl zl 23) _ (icAt C g2 ny c2) _ (hg232.after hb) rfl rfl (by kernel_rfl) hK))) ?_|refine And.intro (sP (bcx (fun a w v hs=>px_put hs (by decide)) i0)) ?_|refine And.intro (sP (bcx (fun a w v hs=>px_put hs (by decide)) i1)) ?_|refine And.intro (sP (bcx (fun a w v hs=>px_put hs (by decide)) i2)) ?_|refine And.intro ?_ ?_)) ?_
   clear i0 i1 i2 g15' g22';intro a u9 hb hs hd zl hh;obtain⟨h166,h168,h172,-⟩:=hh;obtain⟨D0,e166,hD0⟩:=FItem.px_holds.1 h166;obtain⟨B0,k0,e168,hS0⟩:=FItem.px_holds.1 h168;obtain⟨B1,k1,e172,hS1⟩:=FItem.px_holds.1 h172;replace zl:=kp [12,163,169,170,173] zl;replace zl:LiveAll ((166,_)::(168,_)::(172,_)::_) a:=⟨e166,e168,e172,zl⟩;replace hic:=hic.after hb;clear h166 h168 h172 e166 e168 e172 hg232 hSB2 hCb hCp;replace hB:=bz_then hB hb;(try clear hup);have hup:=bup hB;clear hb;have hst:=c_step H0 H1 D0 ⟨C.ht,C.rd,C.b,C.bt,C.bp,some ⟨g2,0,none⟩,c2,T2⟩ X Y B0 B1 k0 k1 1125899906842624 3000 0 0 u9 hstp hX hY (by rw[hNx.out];omega) (by rw[hNy.out];omega) (hHo0.after hB) (hHo1.after hB) hD0 hic hS0 hS1 (hKt.after hB) (Nat.lt_of_lt_of_le h0 hB.size);rw[hNx.out,hNy.out,HCE.out]at hst;refine tc hst hs hd zl ?_;rintro _ u10 ⟨r,VX,VY,CT,B,q,rfl,hVX,hVY,hCT,hout,hb⟩;refine⟨_,rfl,?_⟩;clear hs hd zl;intro a hs hd zl;clear hst;have hht1:H1.ht=6+gp:=by obtain⟨bh,bp,hh,rfl,_⟩:=hH1;rfl
   have hht0:H0.ht=5:=by obtain⟨bh,bp,hh,rfl,_⟩:=hH0;rfl
   rw[hht1,hht0]at hout;rw[← hNy.out]at hp;have hr:r≠0:=forged hO hgp.1 hp hp3 hX hY hVX hVY rfl hCT hpre2.len (fun i x s hx hs hf=>⟨hlie i x s hx hs hf,by
    rcases hpre2.of_ i x s hx hs with⟨e,_⟩|⟨_,e,_⟩
    ·rw[hf]at e;exact absurd e (by decide)
    ·exact e⟩) hout
   have e2:(r != 0)=true:=by simpa using hr
   have e2':(r == 0)=false:=by simpa using hr
   have e2'':decide (r=0)=false:=decide_eq_false hr;clear hout hr;replace hB:=bz_then hB hb;(try clear hup);have hup:=bup hB;clear hb;refine wW ?_;clear hs hd zl;intro a hs hd zl;refine tc (c_lvl _) hs hd zl ?_;rintro _ u11 ⟨rfl,hb⟩;refine⟨_,rfl,?_⟩;clear hs hd zl;intro a hs hd zl;replace hB:=bz_then hB hb;(try clear hup);have hup:=bup hB;clear hb;refine wW ?_;clear hs hd zl;intro a hs hd zl;refine wp_ret ?_;(repeat first|refine then_ret ?_|refine inBlock_ret ?_);exact end_tmp rfl hd (sl zl 12) ⟨rfl,bz_then hBw (bz_then hBu hB)⟩
end Go.Proofs.YtjhnnjhaklohhaaGreatDoor
namespace Go.Proofs.YtjhnnjhaklohhaaGreatDoor.fnForged
open Go.ChangeShapes Go.WideShapes Go.ChangeAt Go.RowKit Go.Deep
set_option linter.unusedVariables false
theorem own:ownKnob Tryz.prog.godebug=none:=by kernel_rfl
theorem laidOut:laidOutB Tryz.prog=true:=by kernel_rfl
theorem gK:Tryz.prog.globalNamed "lightclient/pub/sha256._K" =some 1:=by kernel_rfl
theorem tK:(Tryz.prog.globals[1]?).map (·.type)=some 99:=by kernel_rfl
theorem laid_list:(Rows.laid_lightclient_pub_sha256_K:DataW Unit)=.agg (kTab.map fun x=>.lit (.int .u32 x)):=rfl
theorem ktab{W:World}(h:laidMetH Tryz.prog [("lightclient/pub/sha256._K",Rows.laid_lightclient_pub_sha256_K)] W):KTab W 1:=by
 rw[MakeChecks.laidMetH_plain _ _ _ (by kernel_rfl)]at h;obtain⟨ps,⟨g1,t1,cs1,f1,p1,q1,hg1,ht1,hv1,hd1,_,_⟩,_,_⟩:=h;obtain rfl:=Option.some.inj (gK.symm.trans hg1);obtain rfl:=Option.some.inj (tK.symm.trans ht1);obtain⟨xs,m1,rfl,hx1,hlen,hn3,hel⟩:=DataW.trod_array Tryz.underlying99 hd1;have c3:Tryz.prog.cellsOf 96=1:=by kernel_rfl
 rw[c3]at hel;simp only[Prod.mk.injEq]at hx1;have hx:xs.map (·.1)=kTab.map fun x=>DataW.lit (Lit.int .u32 x):=by
  have h1:=hx1.1;rw[laid_list]at h1;exact DataW.agg.inj h1.symm
 intro i hi;have hxi:i<xs.length:=by omega
 have h0:=hel i hi;rw[List.getElem?_eq_getElem hxi,Nat.mul_one]at h0;obtain⟨k,e1,e2,_⟩:=DataW.trod_int Tryz.underlying96 h0;have hk:k=kTab.getD i 0:=by
  have h2:(xs.map (·.1))[i]?=(kTab.map fun x=>DataW.lit (Lit.int .u32 x))[i]?:=by rw[hx]
  have hkl:i<kTab.length:=hi;rw[List.getElem?_map,List.getElem?_map,List.getElem?_eq_getElem hxi,List.getElem?_eq_getElem hkl,e2]at h2;simp only[Option.map_some,Option.some.injEq,DataW.lit.injEq,Lit.int.injEq,true_and]at h2;rw[h2,List.getD_eq_getElem?_getD,List.getElem?_eq_getElem hkl];rfl
 rw[World.var?_cell gK hv1 i,← Array.getElem?_toList];have h3:((cs1.toList.drop i).take 1)[0]?=some (Value.int .u32 k):=by rw[e1];rfl
 rw[List.getElem?_take,if_pos (by decide),List.getElem?_drop,Nat.add_zero]at h3;rw[h3,hk]
section
variable{H:Type}{enc:TypeId×Value→H}{W:World}
theorem open_seats{fuel:Nat}{a:Option Addr}{n c:Nat}{x:DataW H×List MemPlace}(h:DataW.trod enc Tryz.prog W 0 (fun _=>true) true fuel 25 [.slice a n c]=some x):
  ∃L:List Seat,L.length=n∧SeatsAt W a L∧(Fm a L.length c∨∃ad,a=some ad∧L=[])∧L.length≤c∧c≤9223372036854775807∧∀s∈L,-9223372036854775808≤s.p∧s.p≤9223372036854775807:=by
 rcases open_slice Tryz.underlying25 h with⟨hcs,_⟩|⟨ad,len,cap,m,f,D,Pl,hcs,_,hl,hm,hmm,_,hi⟩
 ·simp at hcs;obtain⟨rfl,rfl,rfl⟩:=hcs;exact⟨[],rfl,RowsAt.nil _ _ _,.inl (.inl ⟨rfl,rfl,rfl⟩),Nat.le_refl _,by decide,fun s hs=>by cases hs⟩
 ·simp at hcs;obtain⟨rfl,rfl,rfl⟩:=hcs;have hm':m=c:=hmm;subst hm';have hC:Tryz.prog.cellsOf 63=4:=by kernel_rfl
  have hone:oneCellFields Tryz.prog #[{name:= "Address",type:=9,offset:=0,embedded:=false,tag:= "",pkgPath:= "",byteOffset:=0},{name:= "Key",type:=9,offset:=1,embedded:=false,tag:= "",pkgPath:= "",byteOffset:=16},{name:= "Power",type:=3,offset:=2,embedded:=false,tag:= "",pkgPath:= "",byteOffset:=32},{name:= "Priority",type:=3,offset:=3,embedded:=false,tag:= "",pkgPath:= "",byteOffset:=40}]=true:=by kernel_rfl
  have hs:∀i,i<m→∃s:Seat,(∀j v,s.cells[j]?=some v→W.cell? (ad.add (i*4+j))=some v)∧-9223372036854775808≤s.p∧s.p≤9223372036854775807:=by
   intro i him;obtain⟨cs',hc,ht'⟩:=hi i him;rw[hC]at hc;obtain⟨ys,n',hn',hy,hlen,hyl,hf⟩:=DataW.trod_struct Tryz.underlying63 ht';obtain⟨_,hcl,hat⟩:=World.cells?_some hc;rcases cs' with _|⟨v0,_|⟨v1,_|⟨v2,_|⟨v3,_|⟨v4,ct⟩⟩⟩⟩⟩
   ·cases hcl
   ·cases hcl
   ·cases hcl
   ·cases hcl
   rotate_left
   ·exact absurd hcl (by simp)
   ·obtain⟨o0,k0⟩:=hone_of hone 0 _ rfl;obtain⟨o1,k1⟩:=hone_of hone 1 _ rfl;obtain⟨o2,k2⟩:=hone_of hone 2 _ rfl;obtain⟨o3,k3⟩:=hone_of hone 3 _ rfl;have g0:=hf 0 _ rfl;have g1:=hf 1 _ rfl;have g2:=hf 2 _ rfl;have g3:=hf 3 _ rfl;rw[o0,k0,List.getElem?_eq_getElem (show 0<ys.length by rw[hyl];decide)]at g0;rw[o1,k1,List.getElem?_eq_getElem (show 1<ys.length by rw[hyl];decide)]at g1;rw[o2,k2,List.getElem?_eq_getElem (show 2<ys.length by rw[hyl];decide)]at g2;rw[o3,k3,List.getElem?_eq_getElem (show 3<ys.length by rw[hyl];decide)]at g3;obtain⟨s0,e0,_,_⟩:=DataW.trod_string Tryz.underlying9 g0;obtain⟨s1,e1,_,_⟩:=DataW.trod_string Tryz.underlying9 g1;obtain⟨p2,e2,_,w2⟩:=DataW.trod_int Tryz.underlying3 g2;obtain⟨p3,e3,_,_⟩:=DataW.trod_int Tryz.underlying3 g3;obtain rfl:v0=.string s0:=List.singleton_inj.1 e0;obtain rfl:v1=.string s1:=List.singleton_inj.1 e1;obtain rfl:v2=.int .i64 p2:=List.singleton_inj.1 e2;obtain rfl:v3=.int .i64 p3:=List.singleton_inj.1 e3;refine⟨⟨s0,s1,p2,p3⟩,fun j v hj=>?_,bounds_i64 w2⟩;have hj4:j<4:=(List.getElem?_eq_some_iff.1 hj).1;have:=hat j hj4;rw[Go.Deep.add_add]at this;rw[this];exact hj
  have hex:∃f:Nat→Seat,∀i,i<m→(∀j v,(f i).cells[j]?=some v→W.cell? (ad.add (i*4+j))=some v)∧-9223372036854775808≤(f i).p∧(f i).p≤9223372036854775807:=
   ⟨fun i=>if h:i<m then Classical.choose (hs i h)else⟨⟨#[]⟩,⟨#[]⟩,0,0⟩,fun i h=>by simp only[dif_pos h];exact Classical.choose_spec (hs i h)⟩
  obtain⟨f,hf⟩:=hex;have hget:∀i s,((List.range n).map f)[i]?=some s→i<n∧s=f i:=by
   intro i s h;rw[List.getElem?_map]at h;have hin:i<n:=by
    rcases Nat.lt_or_ge i n with h'|h'
    ·exact h'
    ·rw[List.getElem?_eq_none (by simpa using h')]at h;cases h
   rw[List.getElem?_range hin]at h;exact⟨hin,by simpa using h.symm⟩
  refine⟨(List.range n).map f,by simp,?_,?_,by simpa using hl,by unfold maxLen at hm;exact hm,?_⟩
  ·intro i r hr;have hr':=hr;unfold seatRows at hr;rw[List.getElem?_map]at hr;rcases hq:((List.range n).map f)[i]? with _|s
   ·rw[hq]at hr;cases hr
   ·rw[hq]at hr;simp only[Option.map_some,Option.some.injEq]at hr;obtain⟨hin,rfl⟩:=hget i s hq;subst hr;obtain⟨hc,_⟩:=hf i (by omega);have h0:=hc 0 _ rfl;have hsp:ad=⟨ad.block,ad.off,none⟩:=by
     have h00:=(hf 0 (by omega)).1 0 _ rfl;have:=World.cell?_spot h00;obtain⟨b,o,sp⟩:=ad;simpa [Addr.add]using this
    have hc0:=hc 0 _ rfl;rw[hsp,addr_add]at hc0;refine⟨rfl,ad.block,ad.off,by rw[← hsp],World.block_lt_of_cell? W ⟨ad.block,_,none⟩ hc0,fun j v hj=>?_⟩
    ·have:=hc j v hj;rw[hsp,addr_add]at this;simpa [Nat.add_assoc]using this
  ·by_cases hn0:n=0
   ·subst hn0;exact .inr ⟨ad,rfl,rfl⟩
   ·left
    right
    have h00:=(hf 0 (by omega)).1 0 _ rfl;have:=World.cell?_spot h00;obtain⟨b,o,sp⟩:=ad;refine⟨b,o,?_⟩;have:sp=none:=by simpa [Addr.add]using this
    rw[this]
  ·intro s hs';obtain⟨i,hi',rfl⟩:=List.mem_map.1 hs';exact(hf i (by have:=List.mem_range.1 hi';omega)).2
theorem open_bools{fuel:Nat}{a:Option Addr}{n c:Nat}{x:DataW H×List MemPlace}(h:DataW.trod enc Tryz.prog W 0 (fun _=>true) true fuel 53 [.slice a n c]=some x):∃T:List Bool,T.length=n∧RowsAt W a 1 (bRows T):=by
 rcases open_slice Tryz.underlying53 h with⟨hcs,_⟩|⟨ad,len,cap,m,f,D,Pl,hcs,_,hl,hm,hmm,_,hi⟩
 ·simp at hcs;obtain⟨rfl,rfl,rfl⟩:=hcs;exact⟨[],rfl,RowsAt.nil _ _ _⟩
 ·simp at hcs;obtain⟨rfl,rfl,rfl⟩:=hcs;have hm':m=c:=hmm;subst hm';have hC:Tryz.prog.cellsOf 4=1:=by kernel_rfl
  have hs:∀i,i<m→∃q,W.cell? (ad.add i)=some (.bool q):=by
   intro i him;obtain⟨cs',hc,ht'⟩:=hi i him;rw[hC,Nat.mul_one]at hc;obtain⟨q,rfl,_⟩:=DataW.trod_bool Tryz.underlying4 ht';obtain⟨_,_,hat⟩:=World.cells?_some hc;have:=hat 0 (by decide);rw[Go.Deep.add_add,Nat.add_zero]at this;exact⟨q,this⟩
  have hex:∃f:Nat→Bool,∀i,i<m→W.cell? (ad.add i)=some (.bool (f i)):=
   ⟨fun i=>if h:i<m then Classical.choose (hs i h)else false,fun i h=>by simp only[dif_pos h];exact Classical.choose_spec (hs i h)⟩
  obtain⟨f,hf⟩:=hex;refine⟨(List.range n).map f,by simp,fun i r hr=>?_⟩;unfold bRows at hr;rw[List.getElem?_map,List.getElem?_map]at hr;have hin:i<n:=by
   rcases Nat.lt_or_ge i n with h'|h'
   ·exact h'
   ·rw[List.getElem?_eq_none (by simpa using h')]at hr;cases hr
  rw[List.getElem?_range hin]at hr;simp only[Option.map_some,Option.some.injEq]at hr;subst hr;have h0:=hf i (by omega);have hsp:=World.cell?_spot (hf 0 (by omega));obtain⟨b,o,sp⟩:=ad;have hsp:sp=none:=by simpa [Addr.add]using hsp
  subst hsp;rw[addr_add]at h0;refine⟨rfl,b,o,rfl,World.block_lt_of_cell? W _ h0,fun j v hj=>?_⟩;obtain rfl:j=0:=by
   have:=(List.getElem?_eq_some_iff.1 hj).1;simpa using this
  rw[Nat.mul_one,Nat.add_zero,h0];exact hj
theorem open_nums{fuel:Nat}{a:Option Addr}{n c:Nat}{x:DataW H×List MemPlace}(h:DataW.trod enc Tryz.prog W 0 (fun _=>true) true fuel 54 [.slice a n c]=some x):∃F:List Int,F.length=n∧RowsAt W a 1 (iRows F)∧∀x∈F,-9223372036854775808≤x∧x≤9223372036854775807:=by
 rcases open_ints Tryz.underlying54 Tryz.underlying3 (by kernel_rfl) h with⟨hcs,_⟩|⟨ad,l,cc,zs,hcs,_,hl,hm,hz,_,hcell,hwz⟩
 ·simp at hcs;obtain⟨rfl,rfl,rfl⟩:=hcs;exact⟨[],rfl,RowsAt.nil _ _ _,fun x hx=>by cases hx⟩
 ·simp at hcs;obtain⟨rfl,rfl,rfl⟩:=hcs;have hz':zs.length=c:=by simpa using hz
  refine⟨zs.take n,by rw[List.length_take];omega,fun i r hr=>?_,fun x hx=>bounds_i64 (hwz x (List.mem_of_mem_take hx))⟩;unfold iRows at hr;rw[List.getElem?_map]at hr;have hin:i<n:=by
   rcases Nat.lt_or_ge i n with h'|h'
   ·exact h'
   ·rw[List.getElem?_eq_none (by rw[List.length_take];omega)]at hr;cases hr
  rw[List.getElem?_take_of_lt hin,List.getElem?_eq_getElem (by omega)]at hr;simp only[Option.map_some,Option.some.injEq]at hr;subst hr;have h0:=hcell i (by omega);have hsp:=World.cell?_spot (hcell 0 (by omega));obtain⟨b,o,sp⟩:=ad;have hsp:sp=none:=by simpa [Addr.add]using hsp
  subst hsp;rw[addr_add,List.getD_eq_getElem?_getD,List.getElem?_eq_getElem (by omega)]at h0;refine⟨rfl,b,o,rfl,World.block_lt_of_cell? W _ h0,fun j v hj=>?_⟩;obtain rfl:j=0:=by
   have:=(List.getElem?_eq_some_iff.1 hj).1;simpa using this
  rw[Nat.mul_one,Nat.add_zero,h0];exact hj
end
theorem lifted(os:Os)(started:os.Started)(H:Type)(enc:TypeId×Value→H):
  ReturnsInHanded {} Tryz.checked os 4 .any (fun w args=>(Rows.fnForgedSpec.pre enc Tryz.prog Tryz.f4 [] false w args∧laidMetH Tryz.prog [("lightclient/pub/sha256._K",Rows.laid_lightclient_pub_sha256_K)] w)∧sizedMet enc Tryz.prog Tryz.f4 (OpenSpec.ofChange Rows.fnForgedSpec) false w args)
   (Rows.fnForgedSpec.post enc Tryz.prog Tryz.f4 false true false false):=by
 refine returnsInHanded_of_change_and (C:=Tryz.checked) (X:=fun w _=>laidMetH Tryz.prog [("lightclient/pub/sha256._K",Rows.laid_lightclient_pub_sha256_K)] w) (fun _ _ _ hh h=>h.of_heap hh) own started (by kernel_rfl) Tryz.func4
  (ChangeSpec.witness_shaped (enc:=enc) (C:=Tryz.checked) (os:=os) (X:=fun w _=>laidMetH Tryz.prog [("lightclient/pub/sha256._K",Rows.laid_lightclient_pub_sha256_K)] w) false (World.laidAll Tryz.prog os [("lightclient/pub/sha256._K",Rows.laid_lightclient_pub_sha256_K)]) #[.slice none 0 0,.slice none 0 0,.slice none 0 0,.slice none 0 0,.slice none 0 0,.int .i64 0] 8 (World.laidAll_os _ _ _)
   (World.shaped_of_ZipB (by kernel_rfl) (by kernel_rfl)) (by kernel_rfl) (by kernel_rfl) (by kernel_rfl)
   (by rw[MakeChecks.laidMetH_plain _ _ _ (by kernel_rfl)];exact laidMet_laidAll _ (by kernel_rfl) (by kernel_rfl))) ?_
 intro W base args ds gs before hval0 hW _ _ hLd _;have hval:∀(j:Nat) t v,Tryz.f4.params[j]?=some t→args[j]?=some v→Value.okWide Tryz.prog W .any base t v:=hval0;have hW':=hW;obtain⟨p,q,hA0,hV,rfl,_,_⟩:=hW;have hA:DataW.TrodAll enc Tryz.prog W 0 (fun _=>true) true Tryz.f4.params.toList args.toList ds p:=hA0;rw[Tryz.params4]at hA hval;obtain⟨v0,vs0,d0,ds0,p0,q0,hargs,rfl,rfl,h0,r0⟩:=trodAll_cons hA;obtain⟨v1,vs1,d1,ds1,p1,q1,rfl,rfl,rfl,h1,r1⟩:=trodAll_cons r0;obtain⟨v2,vs2,d2,ds2,p2,q2,rfl,rfl,rfl,h2,r2⟩:=trodAll_cons r1;obtain⟨v3,vs3,d3,ds3,p3,q3,rfl,rfl,rfl,h3,r3⟩:=trodAll_cons r2;obtain⟨v4,vs4,d4,ds4,p4,q4,rfl,rfl,rfl,h4,r4⟩:=trodAll_cons r3;obtain⟨v5,vs5,d5,ds5,p5,q5,rfl,rfl,rfl,h5,r5⟩:=trodAll_cons r4;obtain⟨rfl,rfl,rfl⟩:=trodAll_nil r5;obtain rfl:args=#[v0,v1,v2,v3,v4,v5]:=by cases args;simp_all
 obtain⟨rfl,rfl⟩:=trodVars_none hV;obtain⟨a0,n0,c0,rfl⟩:=okWide_slice Tryz.underlying25 (hval 0 25 v0 rfl rfl);obtain⟨a1,n1,c1,rfl⟩:=okWide_slice Tryz.underlying25 (hval 1 25 v1 rfl rfl);obtain⟨a2,n2,c2,rfl⟩:=okWide_slice Tryz.underlying53 (hval 2 53 v2 rfl rfl);obtain⟨a3,n3,c3,rfl⟩:=okWide_slice Tryz.underlying53 (hval 3 53 v3 rfl rfl);obtain⟨a4,n4,c4,rfl⟩:=okWide_slice Tryz.underlying54 (hval 4 54 v4 rfl rfl);obtain⟨a5,rfl,rfl,rfl,w5⟩:=open_int Tryz.underlying3 (hval 5 3 v5 rfl rfl) h5;have k0:=h0;have k1:=h1;have k2:=h2;have k3:=h3;have k4:=h4;have lt0:∀x∈p0,x.block<W.heap.size:=by obtain⟨m,hm⟩:=k0;exact DataW.trod_lt m _ _ _ hm
 have lt1:∀x∈p1,x.block<W.heap.size:=by obtain⟨m,hm⟩:=k1;exact DataW.trod_lt m _ _ _ hm
 have lt2:∀x∈p2,x.block<W.heap.size:=by obtain⟨m,hm⟩:=k2;exact DataW.trod_lt m _ _ _ hm
 have lt3:∀x∈p3,x.block<W.heap.size:=by obtain⟨m,hm⟩:=k3;exact DataW.trod_lt m _ _ _ hm
 have lt4:∀x∈p4,x.block<W.heap.size:=by obtain⟨m,hm⟩:=k4;exact DataW.trod_lt m _ _ _ hm
 obtain⟨m0,h0⟩:=h0;obtain⟨m1,h1⟩:=h1;obtain⟨m2,h2⟩:=h2;obtain⟨m3,h3⟩:=h3;obtain⟨m4,h4⟩:=h4;obtain⟨La,rfl,hLa,hfa,hca,hcma,hpa⟩:=open_seats h0;obtain⟨Lb,rfl,hLb,_,_,_,hpb⟩:=open_seats h1;obtain⟨W1,rfl,hW1⟩:=open_bools h2;obtain⟨W2,rfl,hW2⟩:=open_bools h3;obtain⟨Fl,rfl,hFl,hFi⟩:=open_nums h4;have hKt:=ktab hLd;have hK0:1<W.heap.size:=World.block_lt_of_cell? W _ (hKt 0 (by decide));clear hA0 hval0;refine(w_FnForged La Lb W1 W2 Fl a5 a0 a1 a2 a3 a4 c0 c1 c2 c3 c4 W hLa hfa hca hcma hpa hLb hpb hW1 hW2 hFl hFi (bounds_i64 w5) hKt hK0).mono fun e W' ⟨he,bel⟩=>?_
 subst he;exact⟨_,rfl,_,_,_,[],_,[],hW',trodAll_mk1 (shut_bool Tryz.underlying4 _),(trodAll_cons_mk (Below.trod laidOut (by kernel_rfl) (of_decide_eq_true (by kernel_rfl)) k0 bel lt0) (trodAll_cons_mk (Below.trod laidOut (by kernel_rfl) (of_decide_eq_true (by kernel_rfl)) k1 bel lt1) (trodAll_cons_mk (Below.trod laidOut (by kernel_rfl) (of_decide_eq_true (by kernel_rfl)) k2 bel lt2) (trodAll_cons_mk (Below.trod laidOut (by kernel_rfl) (of_decide_eq_true (by kernel_rfl)) k3 bel lt3) (trodAll_cons_mk (Below.trod laidOut (by kernel_rfl) (of_decide_eq_true (by kernel_rfl)) k4 bel lt4) (trodAll_cons_mk (shut_int Tryz.underlying3 w5) trodAll_mk0)))))),rfl,bel.frame _,fun h=>by cases h⟩
theorem over:Rows.FnForgedSaid:=
 OpenClaim.holds_of_wide 4 Tryz.f4 rfl rfl rfl rfl rfl rfl rfl ⟨rfl,rfl,rfl,rfl,rfl⟩ rfl rfl rfl rfl rfl (by kernel_rfl) Tryz.func4 (by kernel_rfl)
  (of_decide_eq_true (by kernel_rfl)) (by unfold Func.isWrapper;first|(rw[if_pos (by decide+kernel)];kernel_rfl)|(rw[if_neg (by decide+kernel)];exact⟨rfl,rfl⟩))
  (fun os started H enc _=>lifted os started H enc)
theorem proved:Rows.FnForgedCardSaid:=
 Claim7.holds_tied_plain_at .later [] [.data] true (true, "eaa69347d5ce1deca11cebebd0cffbaa9a9e9d153fa4b62ad8d7ea5271b0d256") true
  over (fun _ h=>by cases h) (by kernel_rfl) (fun _ h=>by cases h) fnForged_row_tie rfl ⟨rfl,rfl⟩ (by kernel_rfl) rfl
  (fun f fn hf hfn=>by
   obtain rfl:f=4:=Option.some.inj ((show Tryz.prog.funcNamed "lightclient/laws.FnForged" =some 4 by kernel_rfl).symm.trans hf) |>.symm;obtain rfl:fn=Tryz.f4:=(Option.some.inj (Tryz.func4.symm.trans hfn)).symm;exact⟨by kernel_rfl,fun j t ht=>by
    rw[Tryz.params4]at ht;have hm:t∈[25,25,53,53,54,3]:=by simpa using Array.mem_of_getElem? ht
    have hall:([25,25,53,53,54,3].all fun u=>!Tryz.prog.wantsStandIn u)=true:=by kernel_rfl
    exact(show Tryz.prog.wantsStandIn t=false by simpa using List.all_eq_true.1 hall t hm)⟩)
  (by kernel_rfl)
#print axioms proved
end Go.Proofs.YtjhnnjhaklohhaaGreatDoor.fnForged
