/- Words put into bytes. (Printed by gen_put.py.) Digests of the package: their methods. (Printed by gen_dig.py.) Digests of the package: Write. (Printed by gen_dig.py.) The wire: numbers in sevens of bits, fields; of the reference. The wire of the package: numbers, fields, put behind bytes of the call's own. -/
import Derived.Test.YtjhnnjhaklohhaaGreatDoorM2
import Derived.LoopN
import Derived.Test.YtjhnnjhaklohhaaGreatDoorM1
set_option linter.unusedVariables false
set_option linter.unusedSimpArgs false
set_option maxHeartbeats 4000000
set_option maxRecDepth 100000
namespace Go.Proofs.YtjhnnjhaklohhaaGreatDoor
open Go.RowKit
theorem put_snoc(cs:Array Value)(o:Nat)(l:List Int)(x:Int)(h:o+l.length<cs.size):(putX cs o l).setIfInBounds (o+l.length) (.int .u8 x)=putX cs o (l++[x]):=by
 apply Array.ext';unfold putX;have h1:(cs.toList.take o++l.map (Value.int .u8)).length=o+l.length:=by simp;omega
 simp only[List.setIfInBounds_toArray,List.set_append,h1,Nat.lt_irrefl,if_false,Nat.sub_self,List.map_append,List.length_append,List.length_cons,List.length_nil,List.map_cons,List.map_nil];rw[← Nat.add_assoc,show cs.toList.drop (o+l.length)=cs.toList[o+l.length]'(by simpa using h)::cs.toList.drop (o+l.length+1)from List.drop_eq_getElem_cons _];simp[List.append_assoc]
theorem put_zero{w:World}{g o:Nat}{t:TypeId}{cs:Array Value}{x:Int}(h:o<cs.size)(hg:Blk w g t ((putX cs o []).setIfInBounds o (.int .u8 x))):Blk w g t (putX cs o [x]):=by
 have e:=put_snoc cs o [] x (by simpa using h);simp only[List.length_nil,Nat.add_zero,List.nil_append]at e
 rwa [e]at hg
theorem sh64(v k:Nat)(K:Int)(hK:K=(k:Int))(hk:k≤56):IntKind.u8.wrap ((v:Int).fdiv (2 ^ min K.toNat 64))=((v / 2 ^ k % 256:Nat):Int):=by
 subst hK;have e:(2:Int) ^ k=((2 ^ k:Nat):Int):=by rw[Int.natCast_pow];rfl
 rw[IntKind.wrap_u8',Int.toNat_natCast,Nat.min_eq_left (by omega),e,Int.fdiv_eq_ediv_of_nonneg _ (Int.natCast_nonneg _),Int.natCast_emod,Int.natCast_ediv];rfl
theorem putX_size'(cs:Array Value)(o:Nat)(l:List Int)(h:o+l.length≤cs.size):(putX cs o l).size=cs.size:=putX_size cs o l h
theorem c_put32(g o n c:Nat)(t:TypeId)(cs:Array Value)(v:Int)(w:World)(hg:Blk w g t cs)(hv:U32 v)(hn:4≤n)(ho:o+4≤cs.size)(h8:∀i,i<4→∃x,cs[o+i]?=some (.int .u8 x)):
  Calls Tryz.prog 101 #[.slice (some ⟨g,o,none⟩) n c,.int .u32 v] w fun e w'=>e=.returned (.tuple #[])∧w.grownBy w' (some g)∧Blk w' g t (putX cs o (be32 v)):=by
 obtain⟨x3,hx3⟩:=h8 3 (by omega);have c3:=(hg.cell (o+3)).trans hx3;clear hx3 h8;unfold U32 at hv;refine enter_abs Tryz.func101 rfl 26 rfl (by simp) ?_;intro a hs hd hargs;have s0:=hargs 0 _ rfl;have s1:=hargs 1 _ rfl;clear hargs;have hG:=GB.refl w g;rw[show cs=putX cs o []from(putX_nil cs o).symm]at hg;have n0:(0:Int)<(n:Int):=by omega
 have n1:(1:Int)<(n:Int):=by omega
 have n2:(2:Int)<(n:Int):=by omega
 have n3:(3:Int)<(n:Int):=by omega
 have m0:0<n:=by omega
 refine wp_seq ?_;refine fl2 (F:=[(0,_),(1,_)]) [.eq 4 _,.eq 5 _] 2 hs hd ⟨s0,s1,trivial⟩
  ⟨(stp rfl fun a u hb hs hl hd K hK=>by have s0:=gL hl 0;clear hd;go_simp;exact kE hK hs),
   (stp rfl fun a u hb hs hl hd K hK=>by have s4:=gD hd 0;clear hd;go_simp;exact kE hK hs),
   trivial⟩ ?_
 clear hs hd s0 s1;intro a w hb hs hd zl hh;replace zl:=lH hh 1 zl;clear hh;replace hG:=hG.after hb;replace hg:=hg.after hb;replace c3:=cell_up hb c3;clear hb;show wpList _ _ _ [_] _ _
 refine tail_op rfl (fun K hK=>?_);have q5:=gL zl 0;go_simp;clear q5;refine hK _ _ (tP hs hd zl ?_);clear hK K hs hd zl;intro a hs hd zl;clear c3;refine wp_seq ?_;have hw:IntKind.u8.wrap (v / 16777216)=v / 16777216:=(IntKind.wrap_u8' _).trans (by omega);refine fl2 [.eq 7 _,.eq 8 _,.eq 9 _,.eq 10 _,.eq 11 _] 5 hs hd zl
  ⟨(stp rfl fun a u hb hs hl hd K hK=>by have s0:=gL hl 2;clear hd;go_simp;exact kE hK hs),
   (stp rfl fun a u hb hs hl hd K hK=>by have s1:=gL hl 3;clear hd;go_simp;exact kE hK hs),
   (stp rfl fun a u hb hs hl hd K hK=>by have s8:=gD hd 1;clear hd;go_simp;exact kE hK hs),
   (stp rfl fun a u hb hs hl hd K hK=>by have s9:=gD hd 2;clear hd;go_simp;exact kE hK hs),
   (stp rfl fun a u hb hs hl hd K hK=>by have s7:=gD hd 0;clear hd;go_simp;exact kE hK hs),
   trivial⟩ ?_
 clear hs hd zl;intro a w hb hs hd zl hh;replace zl:=lH hh 3 zl;replace zl:=lH hh 4 zl;clear hh;replace hG:=hG.after hb;replace hg:=hg.after hb;clear hb;show wpList _ _ _ [_] _ _
 refine tail_op rfl (fun K hK=>?_);have q10:=gL zl 1;have q11:=gL zl 0;have hfr:=hg.free (o);have hold:=(hg.cell (o)).trans (Array.getElem?_eq_getElem (show o<_ by rw[putX_size' _ _ _ (by simp <;> omega)];omega));go_simp;clear hfr hold;clear q10 q11;refine hK _ _ ?_;clear hK K;change wpList _ _ _ _ a _;replace hG:=hG.set (o) (.int .u8 (v / 16777216));replace hg:=hg.set_ (o) (.int .u8 (v / 16777216));replace hg:=put_zero (by omega) hg;revert hG hg;generalize World.setCell _ _ _=w;intro hG hg;clear hw;refine wp_seq ?_;have hw:IntKind.u8.wrap (v / 65536)=v / 65536 % 256:=(IntKind.wrap_u8' _).trans (by omega);refine fl2 [.eq 12 _,.eq 13 _,.eq 14 _,.eq 15 _,.eq 16 _] 5 hs hd zl
  ⟨(stp rfl fun a u hb hs hl hd K hK=>by have s0:=gL hl 4;clear hd;go_simp;exact kE hK hs),
   (stp rfl fun a u hb hs hl hd K hK=>by have s1:=gL hl 5;clear hd;go_simp;exact kE hK hs),
   (stp rfl fun a u hb hs hl hd K hK=>by have s13:=gD hd 1;clear hd;go_simp;exact kE hK hs),
   (stp rfl fun a u hb hs hl hd K hK=>by have s14:=gD hd 2;clear hd;go_simp;exact kE hK hs),
   (stp rfl fun a u hb hs hl hd K hK=>by have s12:=gD hd 0;clear hd;go_simp;exact kE hK hs),
   trivial⟩ ?_
 clear hs hd zl;intro a w hb hs hd zl hh;replace zl:=lH hh 3 zl;replace zl:=lH hh 4 zl;clear hh;replace hG:=hG.after hb;replace hg:=hg.after hb;clear hb;show wpList _ _ _ [_] _ _
 refine tail_op rfl (fun K hK=>?_);have q15:=gL zl 1;have q16:=gL zl 0;have hfr:=hg.free (o+1);have hold:=(hg.cell (o+1)).trans (Array.getElem?_eq_getElem (show o+1<_ by rw[putX_size' _ _ _ (by simp <;> omega)];omega));go_simp;clear hfr hold;clear q15 q16;refine hK _ _ ?_;clear hK K;change wpList _ _ _ _ a _;replace hG:=hG.set (o+1) (.int .u8 (v / 65536 % 256));replace hg:=hg.set_ (o+1) (.int .u8 (v / 65536 % 256));rw[show o+1=o+([v / 16777216]:List Int).length from rfl,put_snoc _ _ _ _ (by simp <;> omega)]at hg;simp only[List.cons_append,List.nil_append]at hg;revert hG hg;generalize World.setCell _ _ _=w;intro hG hg;clear hw;refine wp_seq ?_;have hw:IntKind.u8.wrap (v / 256)=v / 256 % 256:=(IntKind.wrap_u8' _).trans (by omega);refine fl2 [.eq 17 _,.eq 18 _,.eq 19 _,.eq 20 _,.eq 21 _] 5 hs hd zl
  ⟨(stp rfl fun a u hb hs hl hd K hK=>by have s0:=gL hl 6;clear hd;go_simp;exact kE hK hs),
   (stp rfl fun a u hb hs hl hd K hK=>by have s1:=gL hl 7;clear hd;go_simp;exact kE hK hs),
   (stp rfl fun a u hb hs hl hd K hK=>by have s18:=gD hd 1;clear hd;go_simp;exact kE hK hs),
   (stp rfl fun a u hb hs hl hd K hK=>by have s19:=gD hd 2;clear hd;go_simp;exact kE hK hs),
   (stp rfl fun a u hb hs hl hd K hK=>by have s17:=gD hd 0;clear hd;go_simp;exact kE hK hs),
   trivial⟩ ?_
 clear hs hd zl;intro a w hb hs hd zl hh;replace zl:=lH hh 3 zl;replace zl:=lH hh 4 zl;clear hh;replace hG:=hG.after hb;replace hg:=hg.after hb;clear hb;show wpList _ _ _ [_] _ _
 refine tail_op rfl (fun K hK=>?_);have q20:=gL zl 1;have q21:=gL zl 0;have hfr:=hg.free (o+2);have hold:=(hg.cell (o+2)).trans (Array.getElem?_eq_getElem (show o+2<_ by rw[putX_size' _ _ _ (by simp <;> omega)];omega));go_simp;clear hfr hold;clear q20 q21;refine hK _ _ ?_;clear hK K;change wpList _ _ _ _ a _;replace hG:=hG.set (o+2) (.int .u8 (v / 256 % 256));replace hg:=hg.set_ (o+2) (.int .u8 (v / 256 % 256));rw[show o+2=o+([v / 16777216,v / 65536 % 256]:List Int).length from rfl,put_snoc _ _ _ _ (by simp <;> omega)]at hg;simp only[List.cons_append,List.nil_append]at hg;revert hG hg;generalize World.setCell _ _ _=w;intro hG hg;clear hw;have hw:IntKind.u8.wrap (v)=v % 256:=(IntKind.wrap_u8' _).trans (by omega);refine fl2 [.eq 22 _,.eq 23 _,.eq 24 _,.eq 25 _] 4 hs hd zl
  ⟨(stp rfl fun a u hb hs hl hd K hK=>by have s0:=gL hl 8;clear hd;go_simp;exact kE hK hs),
   (stp rfl fun a u hb hs hl hd K hK=>by have s1:=gL hl 9;clear hd;go_simp;exact kE hK hs),
   (stp rfl fun a u hb hs hl hd K hK=>by have s23:=gD hd 1;clear hd;go_simp;exact kE hK hs),
   (stp rfl fun a u hb hs hl hd K hK=>by have s22:=gD hd 0;clear hd;go_simp;exact kE hK hs),
   trivial⟩ ?_
 clear hs hd zl;intro a w hb hs hd zl hh;replace zl:=lH hh 2 zl;replace zl:=lH hh 3 zl;clear hh;replace hG:=hG.after hb;replace hg:=hg.after hb;clear hb;show wpList _ _ _ [_] _ _
 refine tail_op rfl (fun K hK=>?_);have q24:=gL zl 1;have q25:=gL zl 0;have hfr:=hg.free (o+3);have hold:=(hg.cell (o+3)).trans (Array.getElem?_eq_getElem (show o+3<_ by rw[putX_size' _ _ _ (by simp <;> omega)];omega));go_simp;clear hfr hold;clear q24 q25;refine hK _ _ ?_;clear hK K;change wpList _ _ _ _ a _;replace hG:=hG.set (o+3) (.int .u8 (v % 256));replace hg:=hg.set_ (o+3) (.int .u8 (v % 256));rw[show o+3=o+([v / 16777216,v / 65536 % 256,v / 256 % 256]:List Int).length from rfl,put_snoc _ _ _ _ (by simp <;> omega)]at hg;simp only[List.cons_append,List.nil_append]at hg;revert hG hg;generalize World.setCell _ _ _=w;intro hG hg;clear hw;exact end_none rfl hd ⟨rfl,hG,hg⟩
theorem c_put64(g o n c:Nat)(t:TypeId)(cs:Array Value)(v:Nat)(w:World)(hg:Blk w g t cs)(hv:v<18446744073709551616)(hn:8≤n)(ho:o+8≤cs.size)(h8:∀i,i<8→∃x,cs[o+i]?=some (.int .u8 x)):
  Calls Tryz.prog 100 #[.slice (some ⟨g,o,none⟩) n c,.int .u64 (v:Int)] w fun e w'=>e=.returned (.tuple #[])∧w.grownBy w' (some g)∧Blk w' g t (putX cs o (be64 v)):=by
 obtain⟨x7,hx7⟩:=h8 7 (by omega);have c7:=(hg.cell (o+7)).trans hx7;clear hx7 h8;refine enter_abs Tryz.func100 rfl 21 rfl (by simp) ?_;intro a hs hd hargs;have s0:=hargs 0 _ rfl;have s1:=hargs 1 _ rfl;clear hargs;have hG:=GB.refl w g;rw[show cs=putX cs o []from(putX_nil cs o).symm]at hg;have n0:(0:Int)<(n:Int):=by omega
 have n1:(1:Int)<(n:Int):=by omega
 have n2:(2:Int)<(n:Int):=by omega
 have n3:(3:Int)<(n:Int):=by omega
 have n4:(4:Int)<(n:Int):=by omega
 have n5:(5:Int)<(n:Int):=by omega
 have n6:(6:Int)<(n:Int):=by omega
 have n7:(7:Int)<(n:Int):=by omega
 have m0:0<n:=by omega
 refine wp_seq ?_;refine fl2 (F:=[(0,_),(1,_)]) [.eq 5 _,.eq 6 _] 2 hs hd ⟨s0,s1,trivial⟩
  ⟨(stp rfl fun a u hb hs hl hd K hK=>by have s0:=gL hl 0;clear hd;go_simp;exact kE hK hs),
   (stp rfl fun a u hb hs hl hd K hK=>by have s5:=gD hd 0;clear hd;go_simp;exact kE hK hs),
   trivial⟩ ?_
 clear hs hd s0 s1;intro a w hb hs hd zl hh;replace zl:=lH hh 1 zl;clear hh;replace hG:=hG.after hb;replace hg:=hg.after hb;replace c7:=cell_up hb c7;clear hb;show wpList _ _ _ [_] _ _
 refine tail_op rfl (fun K hK=>?_);have q6:=gL zl 0;go_simp;clear q6;refine hK _ _ (tP hs hd zl ?_);clear hK K hs hd zl;intro a hs hd zl;clear c7;refine wp_seq ?_;refine wp_region_list ?_;show wpList _ _ _ [_] _ _
 refine tail_op rfl (fun K hK=>?_);go_simp;refine hK _ _ (tP hs hd zl ?_);clear hK K hs hd zl;intro a hs hd zl;refine wp_block ?_;refine wp_loop_rounds 9 ?_;change Code.wp _ _ (Exit.then (Code.rounds _ _ _ 8) _) _ _;refine wp_seq ?_;refine wp_seq ?_;refine fl2 [.eq 8 _] 1 hs hd zl
  ⟨(stp rfl fun a u hb hs hl hd K hK=>by have s4:=gL hl 0;clear hd;go_simp;exact kE hK hs),
   trivial⟩ ?_
 clear hs hd zl;intro a w hb hs hd zl hh;replace zl:=lH hh 0 zl;clear hh;replace hG:=hG.after hb;replace hg:=hg.after hb;clear hb;show wpList _ _ _ [_] _ _
 refine tail_op rfl (fun K hK=>?_);have q8:=gL zl 0;go_simp;clear q8;refine hK _ _ (tP hs hd zl ?_);clear hK K hs hd zl;intro a hs hd zl;refine wp_cond_true (vL zl 0) ?_;refine wp_skip ?_;refine wp_seq ?_;refine wp_block ?_;refine fl2 [.eq 12 _,.eq 13 _,.eq 14 _,.eq 15 _,.eq 16 _,.eq 17 _,.eq 18 _,.eq 19 _,.eq 20 _] 9 hs hd zl
  ⟨(stp rfl fun a u hb hs hl hd K hK=>by have s0:=gL hl 5;clear hd;go_simp;exact kE hK hs),
   (stp rfl fun a u hb hs hl hd K hK=>by have s4:=gL hl 2;clear hd;go_simp;exact kE hK hs),
   (stp rfl fun a u hb hs hl hd K hK=>by have s1:=gL hl 6;clear hd;go_simp;exact kE hK hs),
   (stp rfl fun a u hb hs hl hd K hK=>by have s4:=gL hl 2;clear hd;go_simp;exact kE hK hs),
   (stp rfl fun a u hb hs hl hd K hK=>by have s15:=gD hd 3;clear hd;go_simp;exact kE hK hs),
   (stp rfl fun a u hb hs hl hd K hK=>by have s16:=gD hd 4;clear hd;go_simp;exact kE hK hs),
   (stp rfl fun a u hb hs hl hd K hK=>by have s14:=gD hd 2;have s17:=gD hd 5;clear hd;go_simp;exact kE hK hs),
   (stp rfl fun a u hb hs hl hd K hK=>by have s18:=gD hd 6;clear hd;go_simp;exact kE hK hs),
   (stp rfl fun a u hb hs hl hd K hK=>by have s12:=gD hd 0;have s13:=gD hd 1;clear hd;go_simp;exact kE hK hs),
   trivial⟩ ?_
 clear hs hd zl;intro a w hb hs hd zl hh;replace zl:=lH hh 7 zl;replace zl:=lH hh 8 zl;clear hh;replace hG:=hG.after hb;replace hg:=hg.after hb;clear hb;show wpList _ _ _ [_] _ _
 refine tail_op rfl (fun K hK=>?_);have q19:=gL zl 1;have q20:=gL zl 0;obtain⟨s20,s19,-,-,s4,-,-,s0,s1,-⟩:=zl;replace s19:=s19.trans (congrArg (Value.int IntKind.u8) (sh64 v 56 _ (by kernel_rfl) (by decide)));obtain⟨x,hx⟩:∃x:Int,((v / 2^56 % 256:Nat):Int)=x:=⟨_,rfl⟩;rw[hx]at s19;replace q19:=gd s19;have hfr:=hg.free (o);have hold:=(hg.cell (o)).trans (Array.getElem?_eq_getElem (show o<_ by rw[putX_size' _ _ _ (by simp <;> omega)];omega));go_simp;clear hfr hold;clear q19 q20;refine hK _ _ ?_;clear hK K;change wpList _ _ _ _ a _;replace hG:=hG.set (o) (.int .u8 (x));replace hg:=hg.set_ (o) (.int .u8 (x));replace hg:=put_zero (by omega) hg;revert hG hg;generalize World.setCell _ _ _=w;intro hG hg;subst hx;clear s19 s20;refine fl2 (F:=[(0,_),(1,_),(4,_)]) [.eq 10 _,.eq 11 _] 2 hs hd ⟨s0,s1,s4,trivial⟩
  ⟨(stp rfl fun a u hb hs hl hd K hK=>by have s4:=gL hl 2;clear hd;go_simp;exact kE hK hs),
   (stp rfl fun a u hb hs hl hd K hK=>by have s10:=gD hd 0;clear hd;go_simp;exact kE hK hs),
   trivial⟩ ?_
 clear hs hd s0 s1 s4;intro a w hb hs hd zl hh;replace zl:=lH hh 1 zl;clear hh;replace hG:=hG.after hb;replace hg:=hg.after hb;clear hb;show wpList _ _ _ [_] _ _
 refine tail_op rfl (fun K hK=>?_);have q11:=gL zl 0;go_simp;clear q11;refine hK _ _ ?_;clear hK K;obtain⟨s11,s0,s1,s4,-⟩:=zl;refine act_put (d:=4) _ hs hd (by decide) [(0,_),(1,_),(11,_)] ⟨s0,s1,s11,trivial⟩ rfl ?_;clear hs hd s0 s1 s4 s11;intro a hs hd zl;obtain⟨s4,s0,s1,s11,-⟩:=zl;replace s4:=s4.trans (show _=Value.int IntKind.i64 1 by kernel_rfl);clear s11;change Code.wp _ _ (Exit.then (Code.rounds _ _ _ 7) _) _ _;refine wp_seq ?_;refine wp_seq ?_;refine fl2 (F:=[(0,_),(1,_),(4,_)]) [.eq 8 _] 1 hs hd ⟨s0,s1,s4,trivial⟩
  ⟨(stp rfl fun a u hb hs hl hd K hK=>by have s4:=gL hl 2;clear hd;go_simp;exact kE hK hs),
   trivial⟩ ?_
 clear hs hd s0 s1 s4;intro a w hb hs hd zl hh;replace zl:=lH hh 0 zl;clear hh;replace hG:=hG.after hb;replace hg:=hg.after hb;clear hb;show wpList _ _ _ [_] _ _
 refine tail_op rfl (fun K hK=>?_);have q8:=gL zl 0;go_simp;clear q8;refine hK _ _ (tP hs hd zl ?_);clear hK K hs hd zl;intro a hs hd zl;refine wp_cond_true (vL zl 0) ?_;refine wp_skip ?_;refine wp_seq ?_;refine wp_block ?_;refine fl2 [.eq 12 _,.eq 13 _,.eq 14 _,.eq 15 _,.eq 16 _,.eq 17 _,.eq 18 _,.eq 19 _,.eq 20 _] 9 hs hd zl
  ⟨(stp rfl fun a u hb hs hl hd K hK=>by have s0:=gL hl 2;clear hd;go_simp;exact kE hK hs),
   (stp rfl fun a u hb hs hl hd K hK=>by have s4:=gL hl 4;clear hd;go_simp;exact kE hK hs),
   (stp rfl fun a u hb hs hl hd K hK=>by have s1:=gL hl 3;clear hd;go_simp;exact kE hK hs),
   (stp rfl fun a u hb hs hl hd K hK=>by have s4:=gL hl 4;clear hd;go_simp;exact kE hK hs),
   (stp rfl fun a u hb hs hl hd K hK=>by have s15:=gD hd 3;clear hd;go_simp;exact kE hK hs),
   (stp rfl fun a u hb hs hl hd K hK=>by have s16:=gD hd 4;clear hd;go_simp;exact kE hK hs),
   (stp rfl fun a u hb hs hl hd K hK=>by have s14:=gD hd 2;have s17:=gD hd 5;clear hd;go_simp;exact kE hK hs),
   (stp rfl fun a u hb hs hl hd K hK=>by have s18:=gD hd 6;clear hd;go_simp;exact kE hK hs),
   (stp rfl fun a u hb hs hl hd K hK=>by have s12:=gD hd 0;have s13:=gD hd 1;clear hd;go_simp;exact kE hK hs),
   trivial⟩ ?_
 clear hs hd zl;intro a w hb hs hd zl hh;replace zl:=lH hh 7 zl;replace zl:=lH hh 8 zl;clear hh;replace hG:=hG.after hb;replace hg:=hg.after hb;clear hb;show wpList _ _ _ [_] _ _
 refine tail_op rfl (fun K hK=>?_);have q19:=gL zl 1;have q20:=gL zl 0;obtain⟨s20,s19,-,-,s0,s1,s4,-⟩:=zl;replace s19:=s19.trans (congrArg (Value.int IntKind.u8) (sh64 v 48 _ (by kernel_rfl) (by decide)));obtain⟨x,hx⟩:∃x:Int,((v / 2^48 % 256:Nat):Int)=x:=⟨_,rfl⟩;rw[hx]at s19;replace q19:=gd s19;have hfr:=hg.free (o+1);have hold:=(hg.cell (o+1)).trans (Array.getElem?_eq_getElem (show o+1<_ by rw[putX_size' _ _ _ (by simp <;> omega)];omega));go_simp;clear hfr hold;clear q19 q20;refine hK _ _ ?_;clear hK K;change wpList _ _ _ _ a _;replace hG:=hG.set (o+1) (.int .u8 (x));replace hg:=hg.set_ (o+1) (.int .u8 (x));rw[show o+1=o+([((v / 2^56 % 256:Nat):Int)]:List Int).length from rfl,put_snoc _ _ _ _ (by simp <;> omega)]at hg;simp only[List.cons_append,List.nil_append]at hg;revert hG hg;generalize World.setCell _ _ _=w;intro hG hg;subst hx;clear s19 s20;refine fl2 (F:=[(0,_),(1,_),(4,_)]) [.eq 10 _,.eq 11 _] 2 hs hd ⟨s0,s1,s4,trivial⟩
  ⟨(stp rfl fun a u hb hs hl hd K hK=>by have s4:=gL hl 2;clear hd;go_simp;exact kE hK hs),
   (stp rfl fun a u hb hs hl hd K hK=>by have s10:=gD hd 0;clear hd;go_simp;exact kE hK hs),
   trivial⟩ ?_
 clear hs hd s0 s1 s4;intro a w hb hs hd zl hh;replace zl:=lH hh 1 zl;clear hh;replace hG:=hG.after hb;replace hg:=hg.after hb;clear hb;show wpList _ _ _ [_] _ _
 refine tail_op rfl (fun K hK=>?_);have q11:=gL zl 0;go_simp;clear q11;refine hK _ _ ?_;clear hK K;obtain⟨s11,s0,s1,s4,-⟩:=zl;refine act_put (d:=4) _ hs hd (by decide) [(0,_),(1,_),(11,_)] ⟨s0,s1,s11,trivial⟩ rfl ?_;clear hs hd s0 s1 s4 s11;intro a hs hd zl;obtain⟨s4,s0,s1,s11,-⟩:=zl;replace s4:=s4.trans (show _=Value.int IntKind.i64 2 by kernel_rfl);clear s11;change Code.wp _ _ (Exit.then (Code.rounds _ _ _ 6) _) _ _;refine wp_seq ?_;refine wp_seq ?_;refine fl2 (F:=[(0,_),(1,_),(4,_)]) [.eq 8 _] 1 hs hd ⟨s0,s1,s4,trivial⟩
  ⟨(stp rfl fun a u hb hs hl hd K hK=>by have s4:=gL hl 2;clear hd;go_simp;exact kE hK hs),
   trivial⟩ ?_
 clear hs hd s0 s1 s4;intro a w hb hs hd zl hh;replace zl:=lH hh 0 zl;clear hh;replace hG:=hG.after hb;replace hg:=hg.after hb;clear hb;show wpList _ _ _ [_] _ _
 refine tail_op rfl (fun K hK=>?_);have q8:=gL zl 0;go_simp;clear q8;refine hK _ _ (tP hs hd zl ?_);clear hK K hs hd zl;intro a hs hd zl;refine wp_cond_true (vL zl 0) ?_;refine wp_skip ?_;refine wp_seq ?_;refine wp_block ?_;refine fl2 [.eq 12 _,.eq 13 _,.eq 14 _,.eq 15 _,.eq 16 _,.eq 17 _,.eq 18 _,.eq 19 _,.eq 20 _] 9 hs hd zl
  ⟨(stp rfl fun a u hb hs hl hd K hK=>by have s0:=gL hl 2;clear hd;go_simp;exact kE hK hs),
   (stp rfl fun a u hb hs hl hd K hK=>by have s4:=gL hl 4;clear hd;go_simp;exact kE hK hs),
   (stp rfl fun a u hb hs hl hd K hK=>by have s1:=gL hl 3;clear hd;go_simp;exact kE hK hs),
   (stp rfl fun a u hb hs hl hd K hK=>by have s4:=gL hl 4;clear hd;go_simp;exact kE hK hs),
   (stp rfl fun a u hb hs hl hd K hK=>by have s15:=gD hd 3;clear hd;go_simp;exact kE hK hs),
   (stp rfl fun a u hb hs hl hd K hK=>by have s16:=gD hd 4;clear hd;go_simp;exact kE hK hs),
   (stp rfl fun a u hb hs hl hd K hK=>by have s14:=gD hd 2;have s17:=gD hd 5;clear hd;go_simp;exact kE hK hs),
   (stp rfl fun a u hb hs hl hd K hK=>by have s18:=gD hd 6;clear hd;go_simp;exact kE hK hs),
   (stp rfl fun a u hb hs hl hd K hK=>by have s12:=gD hd 0;have s13:=gD hd 1;clear hd;go_simp;exact kE hK hs),
   trivial⟩ ?_
 clear hs hd zl;intro a w hb hs hd zl hh;replace zl:=lH hh 7 zl;replace zl:=lH hh 8 zl;clear hh;replace hG:=hG.after hb;replace hg:=hg.after hb;clear hb;show wpList _ _ _ [_] _ _
 refine tail_op rfl (fun K hK=>?_);have q19:=gL zl 1;have q20:=gL zl 0;obtain⟨s20,s19,-,-,s0,s1,s4,-⟩:=zl;replace s19:=s19.trans (congrArg (Value.int IntKind.u8) (sh64 v 40 _ (by kernel_rfl) (by decide)));obtain⟨x,hx⟩:∃x:Int,((v / 2^40 % 256:Nat):Int)=x:=⟨_,rfl⟩;rw[hx]at s19;replace q19:=gd s19;have hfr:=hg.free (o+2);have hold:=(hg.cell (o+2)).trans (Array.getElem?_eq_getElem (show o+2<_ by rw[putX_size' _ _ _ (by simp <;> omega)];omega));go_simp;clear hfr hold;clear q19 q20;refine hK _ _ ?_;clear hK K;change wpList _ _ _ _ a _;replace hG:=hG.set (o+2) (.int .u8 (x));replace hg:=hg.set_ (o+2) (.int .u8 (x));rw[show o+2=o+([((v / 2^56 % 256:Nat):Int),((v / 2^48 % 256:Nat):Int)]:List Int).length from rfl,put_snoc _ _ _ _ (by simp <;> omega)]at hg;simp only[List.cons_append,List.nil_append]at hg;revert hG hg;generalize World.setCell _ _ _=w;intro hG hg;subst hx;clear s19 s20;refine fl2 (F:=[(0,_),(1,_),(4,_)]) [.eq 10 _,.eq 11 _] 2 hs hd ⟨s0,s1,s4,trivial⟩
  ⟨(stp rfl fun a u hb hs hl hd K hK=>by have s4:=gL hl 2;clear hd;go_simp;exact kE hK hs),
   (stp rfl fun a u hb hs hl hd K hK=>by have s10:=gD hd 0;clear hd;go_simp;exact kE hK hs),
   trivial⟩ ?_
 clear hs hd s0 s1 s4;intro a w hb hs hd zl hh;replace zl:=lH hh 1 zl;clear hh;replace hG:=hG.after hb;replace hg:=hg.after hb;clear hb;show wpList _ _ _ [_] _ _
 refine tail_op rfl (fun K hK=>?_);have q11:=gL zl 0;go_simp;clear q11;refine hK _ _ ?_;clear hK K;obtain⟨s11,s0,s1,s4,-⟩:=zl;refine act_put (d:=4) _ hs hd (by decide) [(0,_),(1,_),(11,_)] ⟨s0,s1,s11,trivial⟩ rfl ?_;clear hs hd s0 s1 s4 s11;intro a hs hd zl;obtain⟨s4,s0,s1,s11,-⟩:=zl;replace s4:=s4.trans (show _=Value.int IntKind.i64 3 by kernel_rfl);clear s11;change Code.wp _ _ (Exit.then (Code.rounds _ _ _ 5) _) _ _;refine wp_seq ?_;refine wp_seq ?_;refine fl2 (F:=[(0,_),(1,_),(4,_)]) [.eq 8 _] 1 hs hd ⟨s0,s1,s4,trivial⟩
  ⟨(stp rfl fun a u hb hs hl hd K hK=>by have s4:=gL hl 2;clear hd;go_simp;exact kE hK hs),
   trivial⟩ ?_
 clear hs hd s0 s1 s4;intro a w hb hs hd zl hh;replace zl:=lH hh 0 zl;clear hh;replace hG:=hG.after hb;replace hg:=hg.after hb;clear hb;show wpList _ _ _ [_] _ _
 refine tail_op rfl (fun K hK=>?_);have q8:=gL zl 0;go_simp;clear q8;refine hK _ _ (tP hs hd zl ?_);clear hK K hs hd zl;intro a hs hd zl;refine wp_cond_true (vL zl 0) ?_;refine wp_skip ?_;refine wp_seq ?_;refine wp_block ?_;refine fl2 [.eq 12 _,.eq 13 _,.eq 14 _,.eq 15 _,.eq 16 _,.eq 17 _,.eq 18 _,.eq 19 _,.eq 20 _] 9 hs hd zl
  ⟨(stp rfl fun a u hb hs hl hd K hK=>by have s0:=gL hl 2;clear hd;go_simp;exact kE hK hs),
   (stp rfl fun a u hb hs hl hd K hK=>by have s4:=gL hl 4;clear hd;go_simp;exact kE hK hs),
   (stp rfl fun a u hb hs hl hd K hK=>by have s1:=gL hl 3;clear hd;go_simp;exact kE hK hs),
   (stp rfl fun a u hb hs hl hd K hK=>by have s4:=gL hl 4;clear hd;go_simp;exact kE hK hs),
   (stp rfl fun a u hb hs hl hd K hK=>by have s15:=gD hd 3;clear hd;go_simp;exact kE hK hs),
   (stp rfl fun a u hb hs hl hd K hK=>by have s16:=gD hd 4;clear hd;go_simp;exact kE hK hs),
   (stp rfl fun a u hb hs hl hd K hK=>by have s14:=gD hd 2;have s17:=gD hd 5;clear hd;go_simp;exact kE hK hs),
   (stp rfl fun a u hb hs hl hd K hK=>by have s18:=gD hd 6;clear hd;go_simp;exact kE hK hs),
   (stp rfl fun a u hb hs hl hd K hK=>by have s12:=gD hd 0;have s13:=gD hd 1;clear hd;go_simp;exact kE hK hs),
   trivial⟩ ?_
 clear hs hd zl;intro a w hb hs hd zl hh;replace zl:=lH hh 7 zl;replace zl:=lH hh 8 zl;clear hh;replace hG:=hG.after hb;replace hg:=hg.after hb;clear hb;show wpList _ _ _ [_] _ _
 refine tail_op rfl (fun K hK=>?_);have q19:=gL zl 1;have q20:=gL zl 0;obtain⟨s20,s19,-,-,s0,s1,s4,-⟩:=zl;replace s19:=s19.trans (congrArg (Value.int IntKind.u8) (sh64 v 32 _ (by kernel_rfl) (by decide)));obtain⟨x,hx⟩:∃x:Int,((v / 2^32 % 256:Nat):Int)=x:=⟨_,rfl⟩;rw[hx]at s19;replace q19:=gd s19;have hfr:=hg.free (o+3);have hold:=(hg.cell (o+3)).trans (Array.getElem?_eq_getElem (show o+3<_ by rw[putX_size' _ _ _ (by simp <;> omega)];omega));go_simp;clear hfr hold;clear q19 q20;refine hK _ _ ?_;clear hK K;change wpList _ _ _ _ a _;replace hG:=hG.set (o+3) (.int .u8 (x));replace hg:=hg.set_ (o+3) (.int .u8 (x));rw[show o+3=o+([((v / 2^56 % 256:Nat):Int),((v / 2^48 % 256:Nat):Int),((v / 2^40 % 256:Nat):Int)]:List Int).length from rfl,put_snoc _ _ _ _ (by simp <;> omega)]at hg;simp only[List.cons_append,List.nil_append]at hg;revert hG hg;generalize World.setCell _ _ _=w;intro hG hg;subst hx;clear s19 s20;refine fl2 (F:=[(0,_),(1,_),(4,_)]) [.eq 10 _,.eq 11 _] 2 hs hd ⟨s0,s1,s4,trivial⟩
  ⟨(stp rfl fun a u hb hs hl hd K hK=>by have s4:=gL hl 2;clear hd;go_simp;exact kE hK hs),
   (stp rfl fun a u hb hs hl hd K hK=>by have s10:=gD hd 0;clear hd;go_simp;exact kE hK hs),
   trivial⟩ ?_
 clear hs hd s0 s1 s4;intro a w hb hs hd zl hh;replace zl:=lH hh 1 zl;clear hh;replace hG:=hG.after hb;replace hg:=hg.after hb;clear hb;show wpList _ _ _ [_] _ _
 refine tail_op rfl (fun K hK=>?_);have q11:=gL zl 0;go_simp;clear q11;refine hK _ _ ?_;clear hK K;obtain⟨s11,s0,s1,s4,-⟩:=zl;refine act_put (d:=4) _ hs hd (by decide) [(0,_),(1,_),(11,_)] ⟨s0,s1,s11,trivial⟩ rfl ?_;clear hs hd s0 s1 s4 s11;intro a hs hd zl;obtain⟨s4,s0,s1,s11,-⟩:=zl;replace s4:=s4.trans (show _=Value.int IntKind.i64 4 by kernel_rfl);clear s11;change Code.wp _ _ (Exit.then (Code.rounds _ _ _ 4) _) _ _;refine wp_seq ?_;refine wp_seq ?_;refine fl2 (F:=[(0,_),(1,_),(4,_)]) [.eq 8 _] 1 hs hd ⟨s0,s1,s4,trivial⟩
  ⟨(stp rfl fun a u hb hs hl hd K hK=>by have s4:=gL hl 2;clear hd;go_simp;exact kE hK hs),
   trivial⟩ ?_
 clear hs hd s0 s1 s4;intro a w hb hs hd zl hh;replace zl:=lH hh 0 zl;clear hh;replace hG:=hG.after hb;replace hg:=hg.after hb;clear hb;show wpList _ _ _ [_] _ _
 refine tail_op rfl (fun K hK=>?_);have q8:=gL zl 0;go_simp;clear q8;refine hK _ _ (tP hs hd zl ?_);clear hK K hs hd zl;intro a hs hd zl;refine wp_cond_true (vL zl 0) ?_;refine wp_skip ?_;refine wp_seq ?_;refine wp_block ?_;refine fl2 [.eq 12 _,.eq 13 _,.eq 14 _,.eq 15 _,.eq 16 _,.eq 17 _,.eq 18 _,.eq 19 _,.eq 20 _] 9 hs hd zl
  ⟨(stp rfl fun a u hb hs hl hd K hK=>by have s0:=gL hl 2;clear hd;go_simp;exact kE hK hs),
   (stp rfl fun a u hb hs hl hd K hK=>by have s4:=gL hl 4;clear hd;go_simp;exact kE hK hs),
   (stp rfl fun a u hb hs hl hd K hK=>by have s1:=gL hl 3;clear hd;go_simp;exact kE hK hs),
   (stp rfl fun a u hb hs hl hd K hK=>by have s4:=gL hl 4;clear hd;go_simp;exact kE hK hs),
   (stp rfl fun a u hb hs hl hd K hK=>by have s15:=gD hd 3;clear hd;go_simp;exact kE hK hs),
   (stp rfl fun a u hb hs hl hd K hK=>by have s16:=gD hd 4;clear hd;go_simp;exact kE hK hs),
   (stp rfl fun a u hb hs hl hd K hK=>by have s14:=gD hd 2;have s17:=gD hd 5;clear hd;go_simp;exact kE hK hs),
   (stp rfl fun a u hb hs hl hd K hK=>by have s18:=gD hd 6;clear hd;go_simp;exact kE hK hs),
   (stp rfl fun a u hb hs hl hd K hK=>by have s12:=gD hd 0;have s13:=gD hd 1;clear hd;go_simp;exact kE hK hs),
   trivial⟩ ?_
 clear hs hd zl;intro a w hb hs hd zl hh;replace zl:=lH hh 7 zl;replace zl:=lH hh 8 zl;clear hh;replace hG:=hG.after hb;replace hg:=hg.after hb;clear hb;show wpList _ _ _ [_] _ _
 refine tail_op rfl (fun K hK=>?_);have q19:=gL zl 1;have q20:=gL zl 0;obtain⟨s20,s19,-,-,s0,s1,s4,-⟩:=zl;replace s19:=s19.trans (congrArg (Value.int IntKind.u8) (sh64 v 24 _ (by kernel_rfl) (by decide)));obtain⟨x,hx⟩:∃x:Int,((v / 2^24 % 256:Nat):Int)=x:=⟨_,rfl⟩;rw[hx]at s19;replace q19:=gd s19;have hfr:=hg.free (o+4);have hold:=(hg.cell (o+4)).trans (Array.getElem?_eq_getElem (show o+4<_ by rw[putX_size' _ _ _ (by simp <;> omega)];omega));go_simp;clear hfr hold;clear q19 q20;refine hK _ _ ?_;clear hK K;change wpList _ _ _ _ a _;replace hG:=hG.set (o+4) (.int .u8 (x));replace hg:=hg.set_ (o+4) (.int .u8 (x));rw[show o+4=o+([((v / 2^56 % 256:Nat):Int),((v / 2^48 % 256:Nat):Int),((v / 2^40 % 256:Nat):Int),((v / 2^32 % 256:Nat):Int)]:List Int).length from rfl,put_snoc _ _ _ _ (by simp <;> omega)]at hg;simp only[List.cons_append,List.nil_append]at hg;revert hG hg;generalize World.setCell _ _ _=w;intro hG hg;subst hx;clear s19 s20;refine fl2 (F:=[(0,_),(1,_),(4,_)]) [.eq 10 _,.eq 11 _] 2 hs hd ⟨s0,s1,s4,trivial⟩
  ⟨(stp rfl fun a u hb hs hl hd K hK=>by have s4:=gL hl 2;clear hd;go_simp;exact kE hK hs),
   (stp rfl fun a u hb hs hl hd K hK=>by have s10:=gD hd 0;clear hd;go_simp;exact kE hK hs),
   trivial⟩ ?_
 clear hs hd s0 s1 s4;intro a w hb hs hd zl hh;replace zl:=lH hh 1 zl;clear hh;replace hG:=hG.after hb;replace hg:=hg.after hb;clear hb;show wpList _ _ _ [_] _ _
 refine tail_op rfl (fun K hK=>?_);have q11:=gL zl 0;go_simp;clear q11;refine hK _ _ ?_;clear hK K;obtain⟨s11,s0,s1,s4,-⟩:=zl;refine act_put (d:=4) _ hs hd (by decide) [(0,_),(1,_),(11,_)] ⟨s0,s1,s11,trivial⟩ rfl ?_;clear hs hd s0 s1 s4 s11;intro a hs hd zl;obtain⟨s4,s0,s1,s11,-⟩:=zl;replace s4:=s4.trans (show _=Value.int IntKind.i64 5 by kernel_rfl);clear s11;change Code.wp _ _ (Exit.then (Code.rounds _ _ _ 3) _) _ _;refine wp_seq ?_;refine wp_seq ?_;refine fl2 (F:=[(0,_),(1,_),(4,_)]) [.eq 8 _] 1 hs hd ⟨s0,s1,s4,trivial⟩
  ⟨(stp rfl fun a u hb hs hl hd K hK=>by have s4:=gL hl 2;clear hd;go_simp;exact kE hK hs),
   trivial⟩ ?_
 clear hs hd s0 s1 s4;intro a w hb hs hd zl hh;replace zl:=lH hh 0 zl;clear hh;replace hG:=hG.after hb;replace hg:=hg.after hb;clear hb;show wpList _ _ _ [_] _ _
 refine tail_op rfl (fun K hK=>?_);have q8:=gL zl 0;go_simp;clear q8;refine hK _ _ (tP hs hd zl ?_);clear hK K hs hd zl;intro a hs hd zl;refine wp_cond_true (vL zl 0) ?_;refine wp_skip ?_;refine wp_seq ?_;refine wp_block ?_;refine fl2 [.eq 12 _,.eq 13 _,.eq 14 _,.eq 15 _,.eq 16 _,.eq 17 _,.eq 18 _,.eq 19 _,.eq 20 _] 9 hs hd zl
  ⟨(stp rfl fun a u hb hs hl hd K hK=>by have s0:=gL hl 2;clear hd;go_simp;exact kE hK hs),
   (stp rfl fun a u hb hs hl hd K hK=>by have s4:=gL hl 4;clear hd;go_simp;exact kE hK hs),
   (stp rfl fun a u hb hs hl hd K hK=>by have s1:=gL hl 3;clear hd;go_simp;exact kE hK hs),
   (stp rfl fun a u hb hs hl hd K hK=>by have s4:=gL hl 4;clear hd;go_simp;exact kE hK hs),
   (stp rfl fun a u hb hs hl hd K hK=>by have s15:=gD hd 3;clear hd;go_simp;exact kE hK hs),
   (stp rfl fun a u hb hs hl hd K hK=>by have s16:=gD hd 4;clear hd;go_simp;exact kE hK hs),
   (stp rfl fun a u hb hs hl hd K hK=>by have s14:=gD hd 2;have s17:=gD hd 5;clear hd;go_simp;exact kE hK hs),
   (stp rfl fun a u hb hs hl hd K hK=>by have s18:=gD hd 6;clear hd;go_simp;exact kE hK hs),
   (stp rfl fun a u hb hs hl hd K hK=>by have s12:=gD hd 0;have s13:=gD hd 1;clear hd;go_simp;exact kE hK hs),
   trivial⟩ ?_
 clear hs hd zl;intro a w hb hs hd zl hh;replace zl:=lH hh 7 zl;replace zl:=lH hh 8 zl;clear hh;replace hG:=hG.after hb;replace hg:=hg.after hb;clear hb;show wpList _ _ _ [_] _ _
 refine tail_op rfl (fun K hK=>?_);have q19:=gL zl 1;have q20:=gL zl 0;obtain⟨s20,s19,-,-,s0,s1,s4,-⟩:=zl;replace s19:=s19.trans (congrArg (Value.int IntKind.u8) (sh64 v 16 _ (by kernel_rfl) (by decide)));obtain⟨x,hx⟩:∃x:Int,((v / 2^16 % 256:Nat):Int)=x:=⟨_,rfl⟩;rw[hx]at s19;replace q19:=gd s19;have hfr:=hg.free (o+5);have hold:=(hg.cell (o+5)).trans (Array.getElem?_eq_getElem (show o+5<_ by rw[putX_size' _ _ _ (by simp <;> omega)];omega));go_simp;clear hfr hold;clear q19 q20;refine hK _ _ ?_;clear hK K;change wpList _ _ _ _ a _;replace hG:=hG.set (o+5) (.int .u8 (x));replace hg:=hg.set_ (o+5) (.int .u8 (x));rw[show o+5=o+([((v / 2^56 % 256:Nat):Int),((v / 2^48 % 256:Nat):Int),((v / 2^40 % 256:Nat):Int),((v / 2^32 % 256:Nat):Int),((v / 2^24 % 256:Nat):Int)]:List Int).length from rfl,put_snoc _ _ _ _ (by simp <;> omega)]at hg;simp only[List.cons_append,List.nil_append]at hg;revert hG hg;generalize World.setCell _ _ _=w;intro hG hg;subst hx;clear s19 s20;refine fl2 (F:=[(0,_),(1,_),(4,_)]) [.eq 10 _,.eq 11 _] 2 hs hd ⟨s0,s1,s4,trivial⟩
  ⟨(stp rfl fun a u hb hs hl hd K hK=>by have s4:=gL hl 2;clear hd;go_simp;exact kE hK hs),
   (stp rfl fun a u hb hs hl hd K hK=>by have s10:=gD hd 0;clear hd;go_simp;exact kE hK hs),
   trivial⟩ ?_
 clear hs hd s0 s1 s4;intro a w hb hs hd zl hh;replace zl:=lH hh 1 zl;clear hh;replace hG:=hG.after hb;replace hg:=hg.after hb;clear hb;show wpList _ _ _ [_] _ _
 refine tail_op rfl (fun K hK=>?_);have q11:=gL zl 0;go_simp;clear q11;refine hK _ _ ?_;clear hK K;obtain⟨s11,s0,s1,s4,-⟩:=zl;refine act_put (d:=4) _ hs hd (by decide) [(0,_),(1,_),(11,_)] ⟨s0,s1,s11,trivial⟩ rfl ?_;clear hs hd s0 s1 s4 s11;intro a hs hd zl;obtain⟨s4,s0,s1,s11,-⟩:=zl;replace s4:=s4.trans (show _=Value.int IntKind.i64 6 by kernel_rfl);clear s11;change Code.wp _ _ (Exit.then (Code.rounds _ _ _ 2) _) _ _;refine wp_seq ?_;refine wp_seq ?_;refine fl2 (F:=[(0,_),(1,_),(4,_)]) [.eq 8 _] 1 hs hd ⟨s0,s1,s4,trivial⟩
  ⟨(stp rfl fun a u hb hs hl hd K hK=>by have s4:=gL hl 2;clear hd;go_simp;exact kE hK hs),
   trivial⟩ ?_
 clear hs hd s0 s1 s4;intro a w hb hs hd zl hh;replace zl:=lH hh 0 zl;clear hh;replace hG:=hG.after hb;replace hg:=hg.after hb;clear hb;show wpList _ _ _ [_] _ _
 refine tail_op rfl (fun K hK=>?_);have q8:=gL zl 0;go_simp;clear q8;refine hK _ _ (tP hs hd zl ?_);clear hK K hs hd zl;intro a hs hd zl;refine wp_cond_true (vL zl 0) ?_;refine wp_skip ?_;refine wp_seq ?_;refine wp_block ?_;refine fl2 [.eq 12 _,.eq 13 _,.eq 14 _,.eq 15 _,.eq 16 _,.eq 17 _,.eq 18 _,.eq 19 _,.eq 20 _] 9 hs hd zl
  ⟨(stp rfl fun a u hb hs hl hd K hK=>by have s0:=gL hl 2;clear hd;go_simp;exact kE hK hs),
   (stp rfl fun a u hb hs hl hd K hK=>by have s4:=gL hl 4;clear hd;go_simp;exact kE hK hs),
   (stp rfl fun a u hb hs hl hd K hK=>by have s1:=gL hl 3;clear hd;go_simp;exact kE hK hs),
   (stp rfl fun a u hb hs hl hd K hK=>by have s4:=gL hl 4;clear hd;go_simp;exact kE hK hs),
   (stp rfl fun a u hb hs hl hd K hK=>by have s15:=gD hd 3;clear hd;go_simp;exact kE hK hs),
   (stp rfl fun a u hb hs hl hd K hK=>by have s16:=gD hd 4;clear hd;go_simp;exact kE hK hs),
   (stp rfl fun a u hb hs hl hd K hK=>by have s14:=gD hd 2;have s17:=gD hd 5;clear hd;go_simp;exact kE hK hs),
   (stp rfl fun a u hb hs hl hd K hK=>by have s18:=gD hd 6;clear hd;go_simp;exact kE hK hs),
   (stp rfl fun a u hb hs hl hd K hK=>by have s12:=gD hd 0;have s13:=gD hd 1;clear hd;go_simp;exact kE hK hs),
   trivial⟩ ?_
 clear hs hd zl;intro a w hb hs hd zl hh;replace zl:=lH hh 7 zl;replace zl:=lH hh 8 zl;clear hh;replace hG:=hG.after hb;replace hg:=hg.after hb;clear hb;show wpList _ _ _ [_] _ _
 refine tail_op rfl (fun K hK=>?_);have q19:=gL zl 1;have q20:=gL zl 0;obtain⟨s20,s19,-,-,s0,s1,s4,-⟩:=zl;replace s19:=s19.trans (congrArg (Value.int IntKind.u8) (sh64 v 8 _ (by kernel_rfl) (by decide)));obtain⟨x,hx⟩:∃x:Int,((v / 2^8 % 256:Nat):Int)=x:=⟨_,rfl⟩;rw[hx]at s19;replace q19:=gd s19;have hfr:=hg.free (o+6);have hold:=(hg.cell (o+6)).trans (Array.getElem?_eq_getElem (show o+6<_ by rw[putX_size' _ _ _ (by simp <;> omega)];omega));go_simp;clear hfr hold;clear q19 q20;refine hK _ _ ?_;clear hK K;change wpList _ _ _ _ a _;replace hG:=hG.set (o+6) (.int .u8 (x));replace hg:=hg.set_ (o+6) (.int .u8 (x));rw[show o+6=o+([((v / 2^56 % 256:Nat):Int),((v / 2^48 % 256:Nat):Int),((v / 2^40 % 256:Nat):Int),((v / 2^32 % 256:Nat):Int),((v / 2^24 % 256:Nat):Int),((v / 2^16 % 256:Nat):Int)]:List Int).length from rfl,put_snoc _ _ _ _ (by simp <;> omega)]at hg;simp only[List.cons_append,List.nil_append]at hg;revert hG hg;generalize World.setCell _ _ _=w;intro hG hg;subst hx;clear s19 s20;refine fl2 (F:=[(0,_),(1,_),(4,_)]) [.eq 10 _,.eq 11 _] 2 hs hd ⟨s0,s1,s4,trivial⟩
  ⟨(stp rfl fun a u hb hs hl hd K hK=>by have s4:=gL hl 2;clear hd;go_simp;exact kE hK hs),
   (stp rfl fun a u hb hs hl hd K hK=>by have s10:=gD hd 0;clear hd;go_simp;exact kE hK hs),
   trivial⟩ ?_
 clear hs hd s0 s1 s4;intro a w hb hs hd zl hh;replace zl:=lH hh 1 zl;clear hh;replace hG:=hG.after hb;replace hg:=hg.after hb;clear hb;show wpList _ _ _ [_] _ _
 refine tail_op rfl (fun K hK=>?_);have q11:=gL zl 0;go_simp;clear q11;refine hK _ _ ?_;clear hK K;obtain⟨s11,s0,s1,s4,-⟩:=zl;refine act_put (d:=4) _ hs hd (by decide) [(0,_),(1,_),(11,_)] ⟨s0,s1,s11,trivial⟩ rfl ?_;clear hs hd s0 s1 s4 s11;intro a hs hd zl;obtain⟨s4,s0,s1,s11,-⟩:=zl;replace s4:=s4.trans (show _=Value.int IntKind.i64 7 by kernel_rfl);clear s11;change Code.wp _ _ (Exit.then (Code.rounds _ _ _ 1) _) _ _;refine wp_seq ?_;refine wp_seq ?_;refine fl2 (F:=[(0,_),(1,_),(4,_)]) [.eq 8 _] 1 hs hd ⟨s0,s1,s4,trivial⟩
  ⟨(stp rfl fun a u hb hs hl hd K hK=>by have s4:=gL hl 2;clear hd;go_simp;exact kE hK hs),
   trivial⟩ ?_
 clear hs hd s0 s1 s4;intro a w hb hs hd zl hh;replace zl:=lH hh 0 zl;clear hh;replace hG:=hG.after hb;replace hg:=hg.after hb;clear hb;show wpList _ _ _ [_] _ _
 refine tail_op rfl (fun K hK=>?_);have q8:=gL zl 0;go_simp;clear q8;refine hK _ _ (tP hs hd zl ?_);clear hK K hs hd zl;intro a hs hd zl;refine wp_cond_true (vL zl 0) ?_;refine wp_skip ?_;refine wp_seq ?_;refine wp_block ?_;refine fl2 [.eq 12 _,.eq 13 _,.eq 14 _,.eq 15 _,.eq 16 _,.eq 17 _,.eq 18 _,.eq 19 _,.eq 20 _] 9 hs hd zl
  ⟨(stp rfl fun a u hb hs hl hd K hK=>by have s0:=gL hl 2;clear hd;go_simp;exact kE hK hs),
   (stp rfl fun a u hb hs hl hd K hK=>by have s4:=gL hl 4;clear hd;go_simp;exact kE hK hs),
   (stp rfl fun a u hb hs hl hd K hK=>by have s1:=gL hl 3;clear hd;go_simp;exact kE hK hs),
   (stp rfl fun a u hb hs hl hd K hK=>by have s4:=gL hl 4;clear hd;go_simp;exact kE hK hs),
   (stp rfl fun a u hb hs hl hd K hK=>by have s15:=gD hd 3;clear hd;go_simp;exact kE hK hs),
   (stp rfl fun a u hb hs hl hd K hK=>by have s16:=gD hd 4;clear hd;go_simp;exact kE hK hs),
   (stp rfl fun a u hb hs hl hd K hK=>by have s14:=gD hd 2;have s17:=gD hd 5;clear hd;go_simp;exact kE hK hs),
   (stp rfl fun a u hb hs hl hd K hK=>by have s18:=gD hd 6;clear hd;go_simp;exact kE hK hs),
   (stp rfl fun a u hb hs hl hd K hK=>by have s12:=gD hd 0;have s13:=gD hd 1;clear hd;go_simp;exact kE hK hs),
   trivial⟩ ?_
 clear hs hd zl;intro a w hb hs hd zl hh;replace zl:=lH hh 7 zl;replace zl:=lH hh 8 zl;clear hh;replace hG:=hG.after hb;replace hg:=hg.after hb;clear hb;show wpList _ _ _ [_] _ _
 refine tail_op rfl (fun K hK=>?_);have q19:=gL zl 1;have q20:=gL zl 0;obtain⟨s20,s19,-,-,s0,s1,s4,-⟩:=zl;replace s19:=s19.trans (congrArg (Value.int IntKind.u8) (sh64 v 0 _ (by kernel_rfl) (by decide)));rw[Nat.pow_zero,Nat.div_one]at s19;obtain⟨x,hx⟩:∃x:Int,((v % 256:Nat):Int)=x:=⟨_,rfl⟩;rw[hx]at s19;replace q19:=gd s19;have hfr:=hg.free (o+7);have hold:=(hg.cell (o+7)).trans (Array.getElem?_eq_getElem (show o+7<_ by rw[putX_size' _ _ _ (by simp <;> omega)];omega));go_simp;clear hfr hold;clear q19 q20;refine hK _ _ ?_;clear hK K;change wpList _ _ _ _ a _;replace hG:=hG.set (o+7) (.int .u8 (x));replace hg:=hg.set_ (o+7) (.int .u8 (x));rw[show o+7=o+([((v / 2^56 % 256:Nat):Int),((v / 2^48 % 256:Nat):Int),((v / 2^40 % 256:Nat):Int),((v / 2^32 % 256:Nat):Int),((v / 2^24 % 256:Nat):Int),((v / 2^16 % 256:Nat):Int),((v / 2^8 % 256:Nat):Int)]:List Int).length from rfl,put_snoc _ _ _ _ (by simp <;> omega)]at hg;simp only[List.cons_append,List.nil_append]at hg;revert hG hg;generalize World.setCell _ _ _=w;intro hG hg;subst hx;clear s19 s20;refine fl2 (F:=[(0,_),(1,_),(4,_)]) [.eq 10 _,.eq 11 _] 2 hs hd ⟨s0,s1,s4,trivial⟩
  ⟨(stp rfl fun a u hb hs hl hd K hK=>by have s4:=gL hl 2;clear hd;go_simp;exact kE hK hs),
   (stp rfl fun a u hb hs hl hd K hK=>by have s10:=gD hd 0;clear hd;go_simp;exact kE hK hs),
   trivial⟩ ?_
 clear hs hd s0 s1 s4;intro a w hb hs hd zl hh;replace zl:=lH hh 1 zl;clear hh;replace hG:=hG.after hb;replace hg:=hg.after hb;clear hb;show wpList _ _ _ [_] _ _
 refine tail_op rfl (fun K hK=>?_);have q11:=gL zl 0;go_simp;clear q11;refine hK _ _ ?_;clear hK K;obtain⟨s11,s0,s1,s4,-⟩:=zl;refine act_put (d:=4) _ hs hd (by decide) [(0,_),(1,_),(11,_)] ⟨s0,s1,s11,trivial⟩ rfl ?_;clear hs hd s0 s1 s4 s11;intro a hs hd zl;obtain⟨s4,s0,s1,s11,-⟩:=zl;replace s4:=s4.trans (show _=Value.int IntKind.i64 8 by kernel_rfl);clear s11;change Code.wp _ _ (Exit.then (Code.rounds _ _ _ 0) _) _ _;refine wp_seq ?_;refine wp_seq ?_;refine fl2 (F:=[(0,_),(1,_),(4,_)]) [.eq 8 _] 1 hs hd ⟨s0,s1,s4,trivial⟩
  ⟨(stp rfl fun a u hb hs hl hd K hK=>by have s4:=gL hl 2;clear hd;go_simp;exact kE hK hs),
   trivial⟩ ?_
 clear hs hd s0 s1 s4;intro a w hb hs hd zl hh;replace zl:=lH hh 0 zl;clear hh;replace hG:=hG.after hb;replace hg:=hg.after hb;clear hb;show wpList _ _ _ [_] _ _
 refine tail_op rfl (fun K hK=>?_);have q8:=gL zl 0;go_simp;clear q8;refine hK _ _ (tP hs hd zl ?_);clear hK K hs hd zl;intro a hs hd zl;refine wp_cond_false (vL zl 0) ?_;refine wp_exit ?_;repeat refine then_exit ?_
 refine inBlock_exit ?_;exact end_none rfl hd ⟨rfl,hG,hg⟩
theorem c_Reset(g:Nat)(s:ShaSt)(x:Array Value)(nx ln:Int)(w:World)(hg:Blk w g 188 (dig s x nx ln))(hx:x.size=64)(hx1:One x):
  Calls Tryz.prog 88 #[.pointer (some ⟨g,0,none⟩)] w fun e w'=>e=.returned (.tuple #[])∧w.grownBy w' (some g)∧Dst w' g []:=by
 refine enter_abs Tryz.func88 rfl 77 rfl (by simp) ?_;intro a hs hd hargs;have s0:=hargs 0 _ rfl;clear hargs;have hG:=GB.refl w g;refine wp_seq ?_;refine wp_seq ?_;have c4:=(hg.cell 74).trans (dig_get_224 s x nx ln hx);refine fl2 (F:=[(0,_)]) [.eq 2 _,.eq 3 _,.eq 4 _,.eq 5 _] 4 hs hd ⟨s0,trivial⟩
  ⟨sP bq,
   sP bq,
   sP bq,
   sP bq,
   trivial⟩ ?_
 clear hs hd s0;intro a w hb hs hd zl hh;replace zl:=lH hh 3 zl;clear hh;replace hG:=hG.after hb;replace hg:=hg.after hb;replace c4:=cell_up hb c4;clear hb;refine wn 1 ?_;clear hs hd zl;intro a hs hd zl;clear c4;replace hg:Blk w g 188 (putH sha0 (dig s x nx ln) 0):=hg;refine wp_cond_true (vL zl 0) ?_;refine wp_seq ?_;refine fl2 [.eq 7 _,.eq 8 _,.eq 9 _,.eq 10 _] 4 hs hd zl
  ⟨sP bq,
   sP bq,
   sP bq,
   sP bq,
   trivial⟩ ?_
 clear hs hd zl;intro a w hb hs hd zl hh;replace zl:=lH hh 3 zl;clear hh;replace hG:=hG.after hb;replace hg:=hg.after hb;clear hb;show wpList _ _ _ [_] _ _
 refine tail_op rfl (fun K hK=>?_);have q10:=gL zl 0;have hfr:=hg.free (0);have hold:=(hg.cell (0)).trans (Array.getElem?_eq_getElem (show 0<_ by rw[putH_size,dig_size,hx];omega));go_simp;clear hfr hold;clear q10;refine hK _ _ ?_;clear hK K;change wpList _ _ _ _ a _;replace hG:=hG.set (0) (.int .u32 1779033703);replace hg:=hg.set_ (0) (.int .u32 1779033703);replace hg:Blk _ g 188 (putH sha0 (dig s x nx ln) 1):=hg;revert hG hg;generalize World.setCell _ _ _=w;intro hG hg;refine wp_seq ?_;refine fl2 [.eq 11 _,.eq 12 _,.eq 13 _,.eq 14 _] 4 hs hd zl
  ⟨sP bq,
   sP bq,
   sP bq,
   sP bq,
   trivial⟩ ?_
 clear hs hd zl;intro a w hb hs hd zl hh;replace zl:=lH hh 3 zl;clear hh;replace hG:=hG.after hb;replace hg:=hg.after hb;clear hb;show wpList _ _ _ [_] _ _
 refine tail_op rfl (fun K hK=>?_);have q14:=gL zl 0;have hfr:=hg.free (1);have hold:=(hg.cell (1)).trans (Array.getElem?_eq_getElem (show 1<_ by rw[putH_size,dig_size,hx];omega));go_simp;clear hfr hold;clear q14;refine hK _ _ ?_;clear hK K;change wpList _ _ _ _ a _;replace hG:=hG.set (1) (.int .u32 3144134277);replace hg:=hg.set_ (1) (.int .u32 3144134277);replace hg:Blk _ g 188 (putH sha0 (dig s x nx ln) 2):=hg;revert hG hg;generalize World.setCell _ _ _=w;intro hG hg;refine wp_seq ?_;refine fl2 [.eq 15 _,.eq 16 _,.eq 17 _,.eq 18 _] 4 hs hd zl
  ⟨sP bq,
   sP bq,
   sP bq,
   sP bq,
   trivial⟩ ?_
 clear hs hd zl;intro a w hb hs hd zl hh;replace zl:=lH hh 3 zl;clear hh;replace hG:=hG.after hb;replace hg:=hg.after hb;clear hb;show wpList _ _ _ [_] _ _
 refine tail_op rfl (fun K hK=>?_);have q18:=gL zl 0;have hfr:=hg.free (2);have hold:=(hg.cell (2)).trans (Array.getElem?_eq_getElem (show 2<_ by rw[putH_size,dig_size,hx];omega));go_simp;clear hfr hold;clear q18;refine hK _ _ ?_;clear hK K;change wpList _ _ _ _ a _;replace hG:=hG.set (2) (.int .u32 1013904242);replace hg:=hg.set_ (2) (.int .u32 1013904242);replace hg:Blk _ g 188 (putH sha0 (dig s x nx ln) 3):=hg;revert hG hg;generalize World.setCell _ _ _=w;intro hG hg;refine wp_seq ?_;refine fl2 [.eq 19 _,.eq 20 _,.eq 21 _,.eq 22 _] 4 hs hd zl
  ⟨sP bq,
   sP bq,
   sP bq,
   sP bq,
   trivial⟩ ?_
 clear hs hd zl;intro a w hb hs hd zl hh;replace zl:=lH hh 3 zl;clear hh;replace hG:=hG.after hb;replace hg:=hg.after hb;clear hb;show wpList _ _ _ [_] _ _
 refine tail_op rfl (fun K hK=>?_);have q22:=gL zl 0;have hfr:=hg.free (3);have hold:=(hg.cell (3)).trans (Array.getElem?_eq_getElem (show 3<_ by rw[putH_size,dig_size,hx];omega));go_simp;clear hfr hold;clear q22;refine hK _ _ ?_;clear hK K;change wpList _ _ _ _ a _;replace hG:=hG.set (3) (.int .u32 2773480762);replace hg:=hg.set_ (3) (.int .u32 2773480762);replace hg:Blk _ g 188 (putH sha0 (dig s x nx ln) 4):=hg;revert hG hg;generalize World.setCell _ _ _=w;intro hG hg;refine wp_seq ?_;refine fl2 [.eq 23 _,.eq 24 _,.eq 25 _,.eq 26 _] 4 hs hd zl
  ⟨sP bq,
   sP bq,
   sP bq,
   sP bq,
   trivial⟩ ?_
 clear hs hd zl;intro a w hb hs hd zl hh;replace zl:=lH hh 3 zl;clear hh;replace hG:=hG.after hb;replace hg:=hg.after hb;clear hb;show wpList _ _ _ [_] _ _
 refine tail_op rfl (fun K hK=>?_);have q26:=gL zl 0;have hfr:=hg.free (4);have hold:=(hg.cell (4)).trans (Array.getElem?_eq_getElem (show 4<_ by rw[putH_size,dig_size,hx];omega));go_simp;clear hfr hold;clear q26;refine hK _ _ ?_;clear hK K;change wpList _ _ _ _ a _;replace hG:=hG.set (4) (.int .u32 1359893119);replace hg:=hg.set_ (4) (.int .u32 1359893119);replace hg:Blk _ g 188 (putH sha0 (dig s x nx ln) 5):=hg;revert hG hg;generalize World.setCell _ _ _=w;intro hG hg;refine wp_seq ?_;refine fl2 [.eq 27 _,.eq 28 _,.eq 29 _,.eq 30 _] 4 hs hd zl
  ⟨sP bq,
   sP bq,
   sP bq,
   sP bq,
   trivial⟩ ?_
 clear hs hd zl;intro a w hb hs hd zl hh;replace zl:=lH hh 3 zl;clear hh;replace hG:=hG.after hb;replace hg:=hg.after hb;clear hb;show wpList _ _ _ [_] _ _
 refine tail_op rfl (fun K hK=>?_);have q30:=gL zl 0;have hfr:=hg.free (5);have hold:=(hg.cell (5)).trans (Array.getElem?_eq_getElem (show 5<_ by rw[putH_size,dig_size,hx];omega));go_simp;clear hfr hold;clear q30;refine hK _ _ ?_;clear hK K;change wpList _ _ _ _ a _;replace hG:=hG.set (5) (.int .u32 2600822924);replace hg:=hg.set_ (5) (.int .u32 2600822924);replace hg:Blk _ g 188 (putH sha0 (dig s x nx ln) 6):=hg;revert hG hg;generalize World.setCell _ _ _=w;intro hG hg;refine wp_seq ?_;refine fl2 [.eq 31 _,.eq 32 _,.eq 33 _,.eq 34 _] 4 hs hd zl
  ⟨sP bq,
   sP bq,
   sP bq,
   sP bq,
   trivial⟩ ?_
 clear hs hd zl;intro a w hb hs hd zl hh;replace zl:=lH hh 3 zl;clear hh;replace hG:=hG.after hb;replace hg:=hg.after hb;clear hb;show wpList _ _ _ [_] _ _
 refine tail_op rfl (fun K hK=>?_);have q34:=gL zl 0;have hfr:=hg.free (6);have hold:=(hg.cell (6)).trans (Array.getElem?_eq_getElem (show 6<_ by rw[putH_size,dig_size,hx];omega));go_simp;clear hfr hold;clear q34;refine hK _ _ ?_;clear hK K;change wpList _ _ _ _ a _;replace hG:=hG.set (6) (.int .u32 528734635);replace hg:=hg.set_ (6) (.int .u32 528734635);replace hg:Blk _ g 188 (putH sha0 (dig s x nx ln) 7):=hg;revert hG hg;generalize World.setCell _ _ _=w;intro hG hg;refine fl2 [.eq 35 _,.eq 36 _,.eq 37 _,.eq 38 _] 4 hs hd zl
  ⟨sP bq,
   sP bq,
   sP bq,
   sP bq,
   trivial⟩ ?_
 clear hs hd zl;intro a w hb hs hd zl hh;replace zl:=lH hh 3 zl;clear hh;replace hG:=hG.after hb;replace hg:=hg.after hb;clear hb;show wpList _ _ _ [_] _ _
 refine tail_op rfl (fun K hK=>?_);have q38:=gL zl 0;have hfr:=hg.free (7);have hold:=(hg.cell (7)).trans (Array.getElem?_eq_getElem (show 7<_ by rw[putH_size,dig_size,hx];omega));go_simp;clear hfr hold;clear q38;refine hK _ _ ?_;clear hK K;change wpList _ _ _ _ a _;replace hG:=hG.set (7) (.int .u32 1541459225);replace hg:=hg.set_ (7) (.int .u32 1541459225);replace hg:Blk _ g 188 (putH sha0 (dig s x nx ln) 8):=hg;revert hG hg;generalize World.setCell _ _ _=w;intro hG hg;rw[putH_dig]at hg;refine wp_seq ?_;refine fl2 [.eq 71 _,.eq 72 _,.eq 73 _] 3 hs hd zl
  ⟨sP bq,
   sP bq,
   sP bq,
   trivial⟩ ?_
 clear hs hd zl;intro a w hb hs hd zl hh;replace zl:=lH hh 2 zl;clear hh;replace hG:=hG.after hb;replace hg:=hg.after hb;clear hb;show wpList _ _ _ [_] _ _
 refine tail_op rfl (fun K hK=>?_);have q73:=gL zl 0;have hfr:=hg.free (72);have hold:=(hg.cell (72)).trans (Array.getElem?_eq_getElem (show 72<_ by rw[dig_size,hx];omega));go_simp;clear hfr hold;clear q73;refine hK _ _ ?_;clear hK K;change wpList _ _ _ _ a _;replace hG:=hG.set (72) (.int .i64 0);replace hg:=hg.set_ (72) (.int .i64 0);rw[dig_nx _ _ _ _ _ hx]at hg;revert hG hg;generalize World.setCell _ _ _=w;intro hG hg;refine fl2 [.eq 74 _,.eq 75 _,.eq 76 _] 3 hs hd zl
  ⟨sP bq,
   sP bq,
   sP bq,
   trivial⟩ ?_
 clear hs hd zl;intro a w hb hs hd zl hh;replace zl:=lH hh 2 zl;clear hh;replace hG:=hG.after hb;replace hg:=hg.after hb;clear hb;show wpList _ _ _ [_] _ _
 refine tail_op rfl (fun K hK=>?_);have q76:=gL zl 0;have hfr:=hg.free (73);have hold:=(hg.cell (73)).trans (Array.getElem?_eq_getElem (show 73<_ by rw[dig_size,hx];omega));go_simp;clear hfr hold;clear q76;refine hK _ _ ?_;clear hK K;change wpList _ _ _ _ a _;replace hG:=hG.set (73) (.int .u64 0);replace hg:=hg.set_ (73) (.int .u64 0);rw[dig_ln _ _ _ _ _ hx]at hg;revert hG hg;generalize World.setCell _ _ _=w;intro hG hg;exact end_none rfl hd ⟨rfl,hG,x,⟨hx,hx1⟩,hg,fun j hj=>absurd hj (by simp)⟩
theorem c_shaBlock(g b o:Nat)(s:ShaSt)(x:Array Value)(nx ln:Int)(c:Nat)(l:List Int)(w:World)(hl:l.length % 64=0)(hlen:l.length≤1000000000000)(hcap:l.length≤c)
  (hg:Blk w g 188 (dig s x nx ln))(hx:x.size=64)(hl8:Bytes l)(hP:BytesAt w b o l 0 l.length)(hbs:b<w.heap.size)(hKt:KTab w 1):
  Calls Tryz.prog 89 #[.pointer (some ⟨g,0,none⟩),.slice (some ⟨b,o,none⟩) l.length c] w fun e w'=>e=.returned (.tuple #[])∧w.grownBy w' (some g)∧Blk w' g 188 (dig (shaBlks l 0 (l.length / 64) s) x nx ln):=by
 go_enter Tryz.func89,Tryz.ntmps89
 go_wp2_with (go_at_call 99;(with_reducible refine(c_blockGeneric g b o s x nx ln c l w hl hlen hcap hg hx hl8 hP hbs hKt).mono ?_);rintro e w1 ⟨rfl,h1,h2⟩)
 exact end_none rfl ⟨rfl⟩ ⟨rfl,h1,h2⟩
theorem c_shaBlockN(g b o:Nat)(s:ShaSt)(x:Array Value)(nx ln:Int)(N c:Nat)(l:List Int)(w:World)(hN:l.length=N)(hl:N % 64=0)(hlen:N≤1000000000000)(hcap:N≤c)
  (hg:Blk w g 188 (dig s x nx ln))(hx:x.size=64)(hl8:Bytes l)(hP:BytesAt w b o l 0 N)(hbs:b<w.heap.size)(hKt:KTab w 1):
  Calls Tryz.prog 89 #[.pointer (some ⟨g,0,none⟩),.slice (some ⟨b,o,none⟩) N c] w fun e w'=>e=.returned (.tuple #[])∧w.grownBy w' (some g)∧Blk w' g 188 (dig (shaBlks l 0 (N / 64) s) x nx ln):=by
 subst hN;exact c_shaBlock g b o s x nx ln c l w hl hlen hcap hg hx hl8 hP hbs hKt
noncomputable def wrA:Code:=partAt [true,true,true,false] (Tryz.f79.body.getD .skip)
noncomputable def wrB:Code:=partAt [true,true,true,true,false] (Tryz.f79.body.getD .skip)
noncomputable def wrC:Code:=partAt [true,true,true,true,true,false] (Tryz.f79.body.getD .skip)
theorem wr_C{Q:Exit→Act→World→Prop}{n:Nat}{P:Option Addr}{g b o c:Nat}{m p M:List Int}{v4 v5:Value}{w0:World}(a:Act)(w:World)(hs:SzIs a 95)(hd:DfNil a)
  (s0:a.tmps.getD 0 undef=.pointer (some ⟨g,0,none⟩))(s1:a.tmps.getD 1 undef=.slice P n c)(s4:a.tmps.getD 4 undef=v4)(s5:a.tmps.getD 5 undef=v5)
  (hM:Is M (m++p))(hMl:m.length+p.length=M.length)(hlen:M.length≤1000000000000)(hM8:Bytes M)(hG:GB w0 w g)(hP:BytesAt w0 b o p 0 p.length)(hbg:0<p.length→b≠g)(hKt:KTab w0 1)(hg0:g≠1)(hcap:n≤c)(hP':n=0∨P=some ⟨b,o+(p.length-n),none⟩)(hn:n≤p.length)(hn64:n<64)(hD:MidD w g M n)
  (hQ:∀(a:Act) (w:World),SzIs a 95→DfNil a→LiveAll [(4,v4),(5,v5)] a→GB w0 w g→Dst w g M→Q .normal a w):wrC.wp Tryz.prog Q a w:=by
 conv=>arg 2;whnf
 by_cases h0:n=0
 ·refine wp_seq ?_;have hlt:decide ((0:Int)<(n:Int))=false:=by simp;omega
  refine fl2 (F:=[(0,_),(1,_),(4,_),(5,_)]) [.eq 83 _,.eq 84 _] 2 hs hd ⟨s0,s1,s4,s5,trivial⟩
   ⟨sP bq,
    sP bq,
    trivial⟩ ?_
  clear hs hd s0 s1 s4 s5;intro a w hb hs hd zl hh;replace zl:=lH hh 1 zl;clear hh;replace hG:=hG.after hb;replace hD:=hD.after hb;clear hb;refine wn 1 ?_;clear hs hd zl;intro a hs hd zl;clear hlt;refine wp_cond_false (vL zl 0) ?_;refine wp_skip ?_;have hDst:Dst w g M:=by
   rcases hD with⟨_,h⟩|⟨x,k,⟨hx,hx1⟩,hk,hg⟩
   ·exact h
   ·have h1:M.length / 64=k:=by omega
    have h2:M.length % 64=0:=by omega
    exact⟨x,⟨hx,hx1⟩,by rw[h1,h2];exact hg,fun j hj=>absurd hj (by omega)⟩
  obtain⟨s85,-,s0,s1,s4,s5,-⟩:=zl;exact hQ a w hs hd ⟨s4,s5,trivial⟩ hG hDst
 ·obtain rfl:P=some ⟨b,o+(p.length-n),none⟩:=hP'.resolve_left h0;obtain⟨x,k,⟨hx,hx1⟩,hk,hg⟩:=hD.resolve_left (fun h=>h0 h.1);obtain⟨q,hq⟩:∃q,Is (p.drop (p.length-n)) q:=is_self _;have hql:q.length=n:=by rw[← hq.out,List.length_drop];omega
  have hqM:∀j,q.getD j 0=M.getD (64*k+j) 0:=by
   intro j;rw[← hq.out,getD_drop',hM.out,show 64*k+j=m.length+(p.length-n+j)by omega,getD_app]
  have hPw:BytesAt w b (o+(p.length-n)) q 0 n:=by
   have:=(hP.gb0 hG hbg).sub (q:=p.length-n) (m:=n) (by omega);intro j hj;rw[this j hj,← hq.out,Nat.zero_add,Nat.zero_add,getD_drop']
  refine wp_seq ?_;have hlt:decide (0<n)=true:=by simp;omega
  refine fl2 (F:=[(0,_),(1,_),(4,_),(5,_)]) [.eq 83 _,.eq 84 _] 2 hs hd ⟨s0,s1,s4,s5,trivial⟩
   ⟨sP bq,
    sP bq,
    trivial⟩ ?_
  clear hs hd s0 s1 s4 s5;intro a w hb hs hd zl hh;replace zl:=lH hh 1 zl;clear hh;replace hG:=hG.after hb;replace hg:=hg.after hb;replace hPw:=hPw.after hb;clear hb;refine wn 1 ?_;clear hs hd zl;intro a hs hd zl;clear hlt;refine wp_cond_true (vL zl 0) ?_;refine fl2 [.eq 86 _,.eq 87 _,.eq 88 _,.eq 89 _,.eq 90 _,.eq 91 _] 6 hs hd zl
   ⟨sP bq,
    sP bq,
    sP bq,
    sP bq,
    sP bq,
    sP bq,
    trivial⟩ ?_
  clear hs hd zl;intro a w hb hs hd zl hh;replace zl:=lH hh 0 zl;replace zl:=lH hh 4 zl;replace zl:=lH hh 5 zl;clear hh;replace hG:=hG.after hb;replace hg:=hg.after hb;replace hPw:=hPw.after hb;clear hb;show wpList _ _ _ [_,_,_,_] _ _
  refine tail_op rfl (fun K hK=>?_);have q90:=gL zl 1;have q91:=gL zl 0;have s90:=vL zl 1;have s91:=vL zl 0;refine wp_copy_dig (off:=0) (dLen:=64) (dCap:=64) (.tmp 90) (.tmp 91) rfl s90 (by rw[hql];exact s91) hg hx (by omega) (bs_of hPw hql) ?_;intro w2 hg2 hb2;rw[List.take_of_length_le (by omega:q.length≤64)]at hb2;rw[show min q.length 64=n by omega];clear q90 q91;refine hK _ _ (tP hs hd zl ?_);clear hK K hs hd zl s90 s91;intro a hs hd zl;replace hG:=hG.trans hg2;replace hg:=hb2;clear hg2 hPw;obtain⟨x2,hx2e⟩:∃x2,Is (putX x 0 q) x2:=is_self _;have hx2:x2.size=64:=by rw[← hx2e.out,putX_size x 0 q (by omega)];exact hx
  have hx12:One x2:=by rw[← hx2e.out];exact hx1.putX 0 q
  rw[hx2e.out]at hg;refine wn 2 ?_;clear hs hd zl;intro a hs hd zl;refine tail_op rfl (fun K hK=>?_);have q92:=gL zl 2;have q94:=gL zl 0;have hfr:=hg.free (72);have hold:=(hg.cell (72)).trans (Array.getElem?_eq_getElem (show 72<_ by rw[dig_size,hx2];omega));go_simp;clear hfr hold;clear q92 q94;refine hK _ _ ?_;clear hK K;change wpList _ _ _ _ a _;replace hG:=hG.set (72) (.int .i64 ((n:Nat):Int));replace hg:=hg.set_ (72) (.int .i64 ((n:Nat):Int));rw[dig_nx _ _ _ _ _ hx2]at hg;revert hG hg;generalize World.setCell _ _ _=w;intro hG hg;have h1:M.length / 64=k:=by omega
  have h2:M.length % 64=n:=by omega
  obtain⟨-,-,-,-,-,-,-,-,-,-,s4,s5,-⟩:=zl;refine hQ a _ hs hd ⟨s4,s5,trivial⟩ hG ⟨x2,⟨hx2,hx12⟩,by rw[h1,h2];exact hg,fun j hj=>?_⟩;rw[h2]at hj;have:=putX_in x 0 q (by omega) j (by omega);rw[Nat.zero_add,hx2e.out]at this;rw[this,h1,hqM]
theorem wr_B{Q:Exit→Act→World→Prop}{n:Nat}{P:Option Addr}{g b o c:Nat}{m p M:List Int}{v4 v5:Value}{w0:World}(a:Act)(w:World)(hs:SzIs a 95)(hd:DfNil a)
  (s0:a.tmps.getD 0 undef=.pointer (some ⟨g,0,none⟩))(s1:a.tmps.getD 1 undef=.slice P n c)(s4:a.tmps.getD 4 undef=v4)(s5:a.tmps.getD 5 undef=v5)
  (hM:Is M (m++p))(hMl:m.length+p.length=M.length)(hlen:M.length≤1000000000000)(hM8:Bytes M)(hG:GB w0 w g)(hP:BytesAt w0 b o p 0 p.length)(hbg:0<p.length→b≠g)(hKt:KTab w0 1)(hg0:g≠1)(hbs:0<p.length→b<w0.heap.size)(hcap:n≤c)(hP':n=0∨P=some ⟨b,o+(p.length-n),none⟩)(hn:n≤p.length)(hD:MidD w g M n)
  (hQ:∀(a:Act) (w:World) (P:Option Addr) (n c:Nat),(n=0∨P=some ⟨b,o+(p.length-n),none⟩)→n≤p.length→n<64→n≤c→SzIs a 95→DfNil a→LiveAll [(0,.pointer (some ⟨g,0,none⟩)),(1,.slice P n c),(4,v4),(5,v5)] a→GB w0 w g→MidD w g M n→Q .normal a w):wrB.wp Tryz.prog Q a w:=by
 conv=>arg 2;whnf
 by_cases h64:n<64
 ·refine wp_seq ?_;have hlt:decide ((64:Int)≤(n:Int))=false:=by simp;omega
  refine fl2 (F:=[(0,_),(1,_),(4,_),(5,_)]) [.eq 59 _,.eq 60 _] 2 hs hd ⟨s0,s1,s4,s5,trivial⟩
   ⟨sP bq,
    sP bq,
    trivial⟩ ?_
  clear hs hd s0 s1 s4 s5;intro a w hb hs hd zl hh;replace zl:=lH hh 1 zl;clear hh;replace hG:=hG.after hb;replace hD:=hD.after hb;clear hb;refine wn 1 ?_;clear hs hd zl;intro a hs hd zl;clear hlt;refine wp_cond_false (vL zl 0) ?_;refine wp_skip ?_;obtain⟨s61,-,s0,s1,s4,s5,-⟩:=zl;exact hQ a w P n c hP' hn h64 hcap hs hd ⟨s0,s1,s4,s5,trivial⟩ hG hD
 ·obtain rfl:P=some ⟨b,o+(p.length-n),none⟩:=hP'.resolve_left (by omega);clear hP';refine wp_seq ?_;have hlt:decide ((64:Int)≤(n:Int))=true:=by simp;omega
  refine fl2 (F:=[(0,_),(1,_),(4,_),(5,_)]) [.eq 59 _,.eq 60 _] 2 hs hd ⟨s0,s1,s4,s5,trivial⟩
   ⟨sP bq,
    sP bq,
    trivial⟩ ?_
  clear hs hd s0 s1 s4 s5;intro a w hb hs hd zl hh;replace zl:=lH hh 1 zl;clear hh;replace hG:=hG.after hb;replace hD:=hD.after hb;clear hb;refine wn 1 ?_;clear hs hd zl;intro a hs hd zl;clear hlt;refine wp_cond_true (vL zl 0) ?_;refine wp_seq ?_;have hAN:=andNot63 n (by omega);refine fl2 [.eq 62 _,.eq 63 _,.eq 64 _] 3 hs hd zl
   ⟨sP bq,
    sP bq,
    sP bq,
    trivial⟩ ?_
  clear hs hd zl;intro a w hb hs hd zl hh;replace zl:=lH hh 2 zl;clear hh;replace hG:=hG.after hb;replace hD:=hD.after hb;clear hb;refine wn 1 ?_;clear hs hd zl;intro a hs hd zl;clear hAN;refine wp_seq ?_;refine wp_block ?_;obtain⟨s7,-,-,-,s0,s1,s4,s5,-⟩:=zl;refine wp_loop (fun a w=>∃n' c' t:Nat,n'≤p.length∧n'≤c'∧t≤n'∧n'-t<64∧64≤t∧Is (t % 64) 0∧SzIs a 95∧DfNil a∧LiveAll [(0,.pointer (some ⟨g,0,none⟩)),(1,.slice (some ⟨b,o+(p.length-n'),none⟩) n' c'),(4,v4),(5,v5),(7,.int .i64 ((t:Nat):Int))] a∧GB w0 w g∧MidD w g M n')
   (fun a _=>(intOf (a.tmps.getD 7 undef)).toNat) ⟨n,c,n-n % 64,hn,hcap,by omega,by omega,by omega,by unfold Is;omega,hs,hd,⟨s0,s1,s4,s5,s7,trivial⟩,hG,hD⟩ ?_
  clear hs hd s0 s1 s4 s5 s7 hG hD hcap hn h64 a w;rintro a w ⟨n',c',t,hn,hcap,ht,htn,ht64,htm,hs,hd,⟨s0,s1,s4,s5,s7,-⟩,hG,hD⟩;have hmu:(intOf (a.tmps.getD 7 undef)).toNat=t:=by rw[s7];simp[intOf]
  by_cases hbig:65536<t
  ·obtain⟨mu,hmu2⟩:∃x,Is (intOf (a.tmps.getD 7 undef)).toNat x:=is_self _;have hmt:Is t mu:=hmu.symm.trans hmu2.out;clear hmu;refine wp_seq ?_;refine wp_seq ?_;have hlt:decide ((65536:Int)<(t:Int))=true:=by simp;omega
   refine fl2 (F:=[(0,_),(1,_),(4,_),(5,_),(7,_)]) [.eq 65 _] 1 hs hd ⟨s0,s1,s4,s5,s7,trivial⟩
    ⟨sP bq,
     trivial⟩ ?_
   clear hs hd s0 s1 s4 s5 s7;intro a w hb hs hd zl hh;replace zl:=lH hh 0 zl;clear hh;replace hG:=hG.after hb;replace hD:=hD.after hb;clear hb;refine wn 1 ?_;clear hs hd zl;intro a hs hd zl;clear hlt;refine wp_cond_true (vL zl 0) ?_;refine wp_skip ?_;refine wp_block ?_;refine wp_seq ?_;obtain⟨x,k,⟨hx,hx1⟩,hk,hg⟩:=hD.resolve_left (fun h=>absurd h.1 (by omega));have hPw:BytesAt w b (o+(p.length-n')) (piece M k (65536 / 64)) 0 (65536):=by
    have h1:=(hP.gb0 hG hbg).sub (q:=p.length-n') (m:=65536) (by have:=htm.out;omega);intro j hj;rw[h1 j hj,Nat.zero_add,Nat.zero_add,piece_get _ _ _ _ (by have:=htm.out;omega),hM.out,show 64*k+j=m.length+(p.length-n'+j)by have:=htm.out;omega,getD_app]
   have hq1:(65536:Int)≤(c':Int):=by omega
   have hq2:(65536:Int)≤(n':Int):=by omega
   refine fl2 [.eq 67 _,.eq 68 _,.eq 69 _] 3 hs hd zl
    ⟨sP bq,
     sP bq,
     sP bq,
     trivial⟩ ?_
   clear hs hd zl;intro a w hb hs hd zl hh;replace zl:=lH hh 0 zl;replace zl:=lH hh 2 zl;clear hh;replace hG:=hG.after hb;replace hD:=hD.after hb;replace hg:=hg.after hb;replace hPw:=hPw.after hb;clear hb;show wpList _ _ _ [_] _ _
   refine tail_op rfl (fun K hK=>?_);have q67:=gL zl 1;have q69:=gL zl 0;go_simp;refine(c_shaBlockN g b (o+(p.length-n')) (shaBlks M 0 k sha0) x 0 ((M.length:Nat):Int) (65536) c' (piece M k (65536 / 64)) _ ((piece_length _ _ _ (by have:=htm.out;omega)).trans (by have:=htm.out;omega)) (by have:=htm.out;omega) (by have:=htm.out;omega) (by have:=htm.out;omega) hg hx (piece_bytes hM8 _ _) hPw (Nat.lt_of_lt_of_le (hbs (by omega)) hG.size) (hKt.gb hG (fun e=>hg0 e.symm))).mono ?_;rintro e w2 ⟨rfl,hg2,hb2⟩;clear q67 q69;refine hK _ _ (tP hs hd zl ?_);clear hK K hs hd zl;intro a hs hd zl;replace hG:=hG.trans hg2;rw[shaBlks_piece]at hb2;clear hg hPw hg2;replace hD:MidD _ g M (n'-65536):=.inr ⟨x,k+65536 / 64,⟨hx,hx1⟩,by have:=htm.out;omega,hb2⟩;clear hb2;refine wp_seq ?_;have hq1:(65536:Int)≤(c':Int):=by omega
   have hq2:(65536:Int)≤(n':Int):=by omega
   have hq3:(n':Int)≤(c':Int):=by omega
   refine fl2 [.eq 71 _,.eq 72 _] 2 hs hd zl
    ⟨sP bq,
     sP bq,
     trivial⟩ ?_
   clear hs hd zl;intro a w hb hs hd zl hh;replace zl:=lH hh 1 zl;clear hh;replace hG:=hG.after hb;replace hD:=hD.after hb;clear hb;show wpList _ _ _ [_] _ _
   refine tail_op rfl (fun K hK=>?_);have q72:=gL zl 0;go_simp;clear q72;refine hK _ _ ?_;clear hK K;obtain⟨s72,-,-,-,-,-,s0,s1,s4,s5,s7,-⟩:=zl;refine act_put (d:=1) _ hs hd (by decide) [(0,_),(4,_),(5,_),(7,_),(72,_)] ⟨s0,s4,s5,s7,s72,trivial⟩ rfl ?_;clear hs hd s0 s1 s4 s5 s7 s72;intro a hs hd zl;clear hq1 hq2 hq3;have hw:IntKind.i64.wrap ((t:Int)-65536)=((t-65536:Nat):Int):=by rw[IntWalk.i64_in _ (by omega)];omega
   refine fl2 [.eq 73 _,.eq 74 _] 2 hs hd zl
    ⟨sP bq,
     sP bq,
     trivial⟩ ?_
   clear hs hd zl;intro a w hb hs hd zl hh;replace zl:=lH hh 1 zl;clear hh;replace hG:=hG.after hb;replace hD:=hD.after hb;clear hb;show wpList _ _ _ [_] _ _
   refine tail_op rfl (fun K hK=>?_);have q74:=gL zl 0;go_simp;clear q74;refine hK _ _ ?_;clear hK K;obtain⟨s74,s1,s0,s4,s5,s7,-,-⟩:=zl;refine act_put (d:=7) _ hs hd (by decide) [(0,_),(1,_),(4,_),(5,_),(74,_)] ⟨s0,s1,s4,s5,s74,trivial⟩ rfl ?_;clear hs hd s0 s1 s4 s5 s7 s74;intro a hs hd zl;clear hw;obtain⟨s7,s0,s1,s4,s5,-,-⟩:=zl;rw[if_neg (by omega),show o+(p.length-n')+65536=o+(p.length-(n'-65536))by omega]at s1;refine⟨⟨n'-65536,c'-65536,t-65536,by omega,by omega,by omega,by omega,by have:=htm.out;omega,by have:=htm.out;unfold Is;omega,hs,hd,⟨s0,s1,s4,s5,s7,trivial⟩,hG,hD⟩,?_⟩;rw[s7,hmu2.out,← hmt.out];simp[intOf];omega
  ·clear hmu;refine wp_seq ?_;refine wp_seq ?_;have hlt:decide ((65536:Int)<(t:Int))=false:=by simp;omega
   refine fl2 (F:=[(0,_),(1,_),(4,_),(5,_),(7,_)]) [.eq 65 _] 1 hs hd ⟨s0,s1,s4,s5,s7,trivial⟩
    ⟨sP bq,
     trivial⟩ ?_
   clear hs hd s0 s1 s4 s5 s7;intro a w hb hs hd zl hh;replace zl:=lH hh 0 zl;clear hh;replace hG:=hG.after hb;replace hD:=hD.after hb;clear hb;refine wn 1 ?_;clear hs hd zl;intro a hs hd zl;clear hlt;refine wp_cond_false (vL zl 0) ?_;refine wp_exit ?_;repeat refine then_exit ?_
   refine inBlock_exit ?_;refine wp_seq ?_;obtain⟨x,k,⟨hx,hx1⟩,hk,hg⟩:=hD.resolve_left (fun h=>absurd h.1 (by omega));have hPw:BytesAt w b (o+(p.length-n')) (piece M k (t / 64)) 0 (t):=by
    have h1:=(hP.gb0 hG hbg).sub (q:=p.length-n') (m:=t) (by have:=htm.out;omega);intro j hj;rw[h1 j hj,Nat.zero_add,Nat.zero_add,piece_get _ _ _ _ (by have:=htm.out;omega),hM.out,show 64*k+j=m.length+(p.length-n'+j)by have:=htm.out;omega,getD_app]
   have hq1:(t:Int)≤(c':Int):=by omega
   have hq2:(t:Int)≤(n':Int):=by omega
   refine fl2 [.eq 75 _,.eq 76 _,.eq 77 _,.eq 78 _] 4 hs hd zl
    ⟨sP bq,
     sP bq,
     sP bq,
     sP bq,
     trivial⟩ ?_
   clear hs hd zl;intro a w hb hs hd zl hh;replace zl:=lH hh 0 zl;replace zl:=lH hh 3 zl;clear hh;replace hG:=hG.after hb;replace hD:=hD.after hb;replace hg:=hg.after hb;replace hPw:=hPw.after hb;clear hb;show wpList _ _ _ [_] _ _
   refine tail_op rfl (fun K hK=>?_);have q75:=gL zl 1;have q78:=gL zl 0;go_simp;refine(c_shaBlockN g b (o+(p.length-n')) (shaBlks M 0 k sha0) x 0 ((M.length:Nat):Int) (t) c' (piece M k (t / 64)) _ ((piece_length _ _ _ (by have:=htm.out;omega)).trans (by have:=htm.out;omega)) (by have:=htm.out;omega) (by have:=htm.out;omega) (by have:=htm.out;omega) hg hx (piece_bytes hM8 _ _) hPw (Nat.lt_of_lt_of_le (hbs (by omega)) hG.size) (hKt.gb hG (fun e=>hg0 e.symm))).mono ?_;rintro e w2 ⟨rfl,hg2,hb2⟩;clear q75 q78;refine hK _ _ (tP hs hd zl ?_);clear hK K hs hd zl;intro a hs hd zl;replace hG:=hG.trans hg2;rw[shaBlks_piece]at hb2;clear hg hPw hg2;replace hD:MidD _ g M (n'-t):=.inr ⟨x,k+t / 64,⟨hx,hx1⟩,by have:=htm.out;omega,hb2⟩;clear hb2;have hq1:(t:Int)≤(c':Int):=by omega
   have hq2:(t:Int)≤(n':Int):=by omega
   have hq3:(n':Int)≤(c':Int):=by omega
   refine fl2 [.eq 80 _,.eq 81 _,.eq 82 _] 3 hs hd zl
    ⟨sP bq,
     sP bq,
     sP bq,
     trivial⟩ ?_
   clear hs hd zl;intro a w hb hs hd zl hh;replace zl:=lH hh 2 zl;clear hh;replace hG:=hG.after hb;replace hD:=hD.after hb;clear hb;show wpList _ _ _ [_] _ _
   refine tail_op rfl (fun K hK=>?_);have q82:=gL zl 0;go_simp;clear q82;refine hK _ _ ?_;clear hK K;obtain⟨s82,-,-,-,-,-,s0,s1,s4,s5,-,-⟩:=zl;refine act_put (d:=1) _ hs hd (by decide) [(0,_),(4,_),(5,_),(82,_)] ⟨s0,s4,s5,s82,trivial⟩ rfl ?_;clear hs hd s0 s1 s4 s5 s82;intro a hs hd zl;clear hq1 hq2 hq3;obtain⟨s1,s0,s4,s5,-,-⟩:=zl;refine hQ a w _ (n'-t) (c'-t) ?_ (by omega) htn (by omega) hs hd ⟨s0,s1,s4,s5,trivial⟩ hG hD;by_cases h:n'-t=0
   ·exact .inl h
   ·exact .inr (by rw[if_neg (by omega),show o+(p.length-n')+t=o+(p.length-(n'-t))by omega])
def vi(n:Nat):List Int:=if n<128 then[(n:Int)]else((n % 128+128:Nat):Int)::vi (n / 128)
termination_by n
theorem vi_lo(n:Nat)(h:n<128):vi n=[(n:Int)]:=by rw[vi,if_pos h]
theorem vi_hi(n:Nat)(h:¬ n<128):vi n=((n % 128+128:Nat):Int)::vi (n / 128):=by rw[vi,if_neg h]
theorem vi_len(k n:Nat)(h:n<128 ^ k):(vi n).length≤k+1:=by
 induction k generalizing n with
 |zero=>rw[vi_lo n (by omega)];simp
 |succ k ih=>
  by_cases hn:n<128
  ·rw[vi_lo n hn];simp
  ·rw[vi_hi n hn,List.length_cons];have:=ih (n / 128) (by rw[Nat.pow_succ]at h;omega);omega
theorem vi_len63(n:Nat)(h:n≤9223372036854775807):(vi n).length≤10:=vi_len 9 n (by omega)
theorem vi_pos(n:Nat):0<(vi n).length:=by
 by_cases h:n<128
 ·rw[vi_lo n h];simp
 ·rw[vi_hi n h];simp
theorem vi_byte(m:Nat)(hm:m≤9223372036854775807):bits .or .u8 (bits .and .u64 (m:Int) 127 % 256) 128=((m % 128+128:Nat):Int):=by
 have e1:bits .and .u64 (m:Int) 127=((m % 128:Nat):Int):=by
  have:=u64_and_nat m 127 (by omega) (by omega);rw[nat_mask7]at this;exact this
 have e2:((m % 128:Nat):Int) % 256=((m % 128:Nat):Int):=by omega
 rw[e1,e2];have:=u8_or_nat (m % 128) 128 (by omega) (by omega);rw[Nat.or_comm,nat_join 7 128 (m % 128) (by decide) (by omega)]at this;rw[show((m % 128+128:Nat):Int)=((128+m % 128:Nat):Int)by omega];exact this
theorem c_countedN(n:Nat)(w:World)(hn:n≤9223372036854775807):Calls Tryz.prog 60 #[.int .i64 n] w (OutB w (vi n)):=by
 go_enter Tryz.func60,Tryz.ntmps60
 go_wp2
 go_loopw [3,4] (fun v u wr=>∃m:Nat,∃A c pre,Is (vi n) (pre++vi m)∧m≤n∧v=.slice A pre.length c∧u=.int .u64 m∧OwnB w.heap.size wr A c pre∧Below w.heap.size w wr)
  (fun _ u _=>(intOf u).toNat)
 case atStart=>exact⟨n,none,0,[],rfl,Nat.le_refl _,rfl,rfl,OwnB.nil _ _,Below.refl _ _⟩
 case round=>
  obtain⟨m,A,c,pre,hvi,hm,rfl,rfl,hown,hbr⟩:=hrel;have hz:=hbr.size;have hpre:pre.length≤10:=by
   have h1:=congrArg List.length hvi.out;have h2:=vi_len63 n hn;rw[List.length_append]at h1;omega
  by_cases hlt:m<128
  ·go_wp2_with (at_builtin;refine stop ?_)
   (refine on_ ?_;refine app_u8 rfl (.tmp 18) (.tmp 21) rfl rfl (l2:=[_]) (c2:=1) rfl (hown.alloc _) (bs_one _ _ _) (by first|omega|(simp;omega)) (by first|omega|(simp;omega)) ?_)
   intro l1 A1 c1 w1 hl1 hn1 hown1 hb1 _ _
   go_wp2
   go_ret
   refine OutB.mk' ?_ hown1 ((hbr.alloc hz _).trans hb1);rw[hl1.out,hvi.out,vi_lo m hlt]
  ·go_wp2_with (at_builtin;refine stop ?_)
   (refine on_ ?_;refine app_u8 rfl (.tmp 9) (.tmp 14) rfl rfl (l2:=[_]) (c2:=1) rfl (hown.alloc _) (bs_one _ _ _) (by first|omega|(simp;omega)) (by first|omega|(simp;omega)) ?_)
   intro l1 A1 c1 w1 hl1 hn1 hown1 hb1 _ _
   go_wp2
   go_roundw
   case rel=>
    refine⟨m / 128,A1,c1,l1,?_,by omega,rfl,by simp,hown1,(hbr.alloc hz _).trans hb1⟩;unfold Is;rw[hl1.out,hvi.out,vi_hi m hlt,vi_byte m (by omega),List.append_assoc];rfl
   case measure=>simp[intOf];omega
theorem c_counted(a:Int)(w:World)(h0:0≤a)(h1:a≤9223372036854775807):Calls Tryz.prog 60 #[.int .i64 a] w (OutB w (vi a.toNat)):=by
 obtain⟨n,rfl⟩:=Int.eq_ofNat_of_zero_le h0;exact c_countedN n w (by omega)
def numL(f n:Nat):List Int:=if n=0 then[]else((f*8:Nat):Int)::vi n
def withinL(f:Nat)(b:List Int):List Int:=((f*8+2:Nat):Int)::(vi b.length++b)
def someL(f:Nat)(b:List Int):List Int:=if b=[]then[]else withinL f b
theorem numL_len(f n:Nat)(h:n≤9223372036854775807):(numL f n).length≤11:=by
 unfold numL;have:=vi_len63 n h;split <;> simp <;> omega
theorem withinL_len(f:Nat)(b:List Int)(h:b.length≤9223372036854775807):(withinL f b).length≤b.length+11:=by
 unfold withinL;have:=vi_len63 b.length h;simp;omega
theorem someL_len(f:Nat)(b:List Int)(h:b.length≤9223372036854775807):(someL f b).length≤b.length+11:=by
 unfold someL;have:=withinL_len f b h;split <;> simp <;> omega
theorem c_numberN(f n:Nat)(w:World)(hf:f≤15)(hn:n≤9223372036854775807):Calls Tryz.prog 46 #[.int .i64 f,.int .i64 n] w (OutB w (numL f n)):=by
 by_cases h0:n=0
 ·subst h0
  go_enter Tryz.func46,Tryz.ntmps46
  go_wp2
  go_ret
  exact OutB.mk' rfl (OwnB.nil _ _) (Below.refl _ _)
 ·have h1:((n:Int) == 0)=false:=by simpa using h0
  have hfin:Is (numL f n) (vi (f*8)++vi n):=by unfold Is numL;rw[if_neg h0,vi_lo (f*8) (by omega)];rfl
  clear h0
  go_enter Tryz.func46,Tryz.ntmps46
  go_wp2_with (fail)
  refine(c_counted _ _ (by omega) (by omega)).mono ?_;rintro e w1 ⟨l1,A1,c1,hl1,rfl,ho1,hb1⟩
  go_wp2_with (fail)
  refine(c_counted _ _ (by omega) (by omega)).mono ?_;rintro e w2 ⟨l2,A2,c2,hl2,rfl,ho2,hb2⟩;have hn1:=vi_len63 (((f:Int)*8).toNat) (by omega);have hn2:=vi_len63 ((n:Int).toNat) (by omega);rw[← hl1.out]at hn1;rw[← hl2.out]at hn2;have hz1:=hb1.size;have hz2:=hb2.size
  go_wp2_with (at_builtin;refine stop ?_)
  (refine on_ ?_;refine app_u8 rfl (.tmp 9) (.tmp 11) rfl rfl rfl (ho1.after hb2) ho2.bs (by first|omega|(simp;omega)) (by first|omega|(simp;omega)) ?_)
  intro l3 A3 c3 w3 hl3 hn3 ho3 hb3 _ _
  go_wp2
  go_ret
  exact OutB.mk' (by rw[hl3.out,hl1.out,hl2.out,hfin.out,Int.toNat_natCast,show((f:Int)*8).toNat=f*8 by omega]) ho3 ((hb1.trans (hb2.mono hz1)).trans hb3)
theorem c_number(f a:Int)(w:World)(hf:0≤f∧f≤15)(h0:0≤a)(h1:a≤9223372036854775807):Calls Tryz.prog 46 #[.int .i64 f,.int .i64 a] w (OutB w (numL f.toNat a.toNat)):=by
 obtain⟨n,rfl⟩:=Int.eq_ofNat_of_zero_le h0;obtain⟨m,rfl⟩:=Int.eq_ofNat_of_zero_le hf.1;exact c_numberN m n w (by omega) (by omega)
theorem or_two(f:Int)(hf:0≤f∧f≤15):bits .or .i64 (f*8) 2=f*8+2:=by
 obtain⟨n,rfl⟩:=Int.eq_ofNat_of_zero_le hf.1;have hn:n≤15:=by omega
 have:∀n:Fin 16,bits .or .i64 (((n.val:Nat):Int)*8) 2=((n.val:Nat):Int)*8+2:=by decide
 exact this ⟨n,by omega⟩
theorem Bs.len_{w:World}{A:Option Addr}{l:List Int}(_h:Bs w A l):True:=trivial
theorem c_within(f:Int)(A:Option Addr)(c:Nat)(l:List Int)(w:World)(hf:0≤f∧f≤15)(hb:Bs w A l)(hl:l.length≤10000000000000):
  Calls Tryz.prog 45 #[.int .i64 f,.slice A l.length c] w (OutB w (withinL f.toNat l)):=by
 have h2:=or_two f hf;have hfin:Is (withinL f.toNat l) ((vi (f*8+2).toNat++vi l.length)++l):=by unfold Is withinL;rw[vi_lo (f*8+2).toNat (by omega),show(f*8+2).toNat=f.toNat*8+2 by omega];simp
 go_enter Tryz.func45,Tryz.ntmps45
 go_wp2_with (fail)
 refine(c_counted _ _ (by omega) (by omega)).mono ?_;rintro e w1 ⟨l1,A1,c1,hl1,rfl,ho1,hb1⟩
 go_wp2_with (fail)
 refine(c_counted _ _ (by omega) (by omega)).mono ?_;rintro e w2 ⟨l2,A2,c2,hl2,rfl,ho2,hb2⟩;have hn1:=vi_len63 (f*8+2).toNat (by omega);have hn2:=vi_len63 ((l.length:Int).toNat) (by omega);rw[← hl1.out]at hn1;rw[← hl2.out]at hn2;have hz1:=hb1.size;have hz2:=hb2.size;have hB2:=hb1.trans (hb2.mono hz1)
 go_wp2_with (at_builtin;refine stop ?_)
 (refine on_ ?_;refine app_u8 rfl (.tmp 8) (.tmp 11) rfl rfl rfl (ho1.after hb2) ho2.bs (by first|omega|(simp;omega)) (by first|omega|(simp;omega)) ?_)
 intro l3 A3 c3 w3 hl3 hn3 ho3 hb3 _ _;have hz3:=hb3.size;have hB3:=hB2.trans hb3
 go_wp2_with (at_builtin;refine stop ?_)
 (refine on_ ?_;refine app_u8 rfl (.tmp 12) (.tmp 13) rfl rfl rfl ho3 (hb.below hB3) (by first|omega|(simp;omega)) (by first|omega|(simp;omega)) ?_)
 intro l4 A4 c4 w4 hl4 hn4 ho4 hb4 _ _
 go_wp2
 go_ret
 refine OutB.mk' ?_ ho4 (hB3.trans hb4);rw[hl4.out,hl3.out,hl1.out,hl2.out,hfin.out,Int.toNat_natCast]
theorem c_some(f:Int)(A:Option Addr)(c:Nat)(l:List Int)(w:World)(hf:0≤f∧f≤15)(hb:Bs w A l)(hl:l.length≤10000000000000):
  Calls Tryz.prog 48 #[.int .i64 f,.slice A l.length c] w (OutB w (someL f.toNat l)):=by
 by_cases h0:l=[]
 ·subst h0
  go_enter Tryz.func48,Tryz.ntmps48
  go_wp2
  go_ret
  exact OutB.mk' rfl (OwnB.nil _ _) (Below.refl _ _)
 ·have h1:((l.length:Int) == 0)=false:=by
   have:l.length≠0:=fun e=>h0 (List.eq_nil_of_length_eq_zero e)
   simp;omega
  have hfin:Is (someL f.toNat l) (withinL f.toNat l):=by unfold Is someL;rw[if_neg h0]
  clear h0
  go_enter Tryz.func48,Tryz.ntmps48
  go_wp2_with (fail)
  refine(c_within _ _ _ _ _ hf hb hl).mono ?_;rintro e w1 ⟨l1,A1,c1,hl1,rfl,ho1,hb1⟩
  go_wp2
  go_ret
  exact OutB.mk' (hl1.out.trans hfin.out.symm) ho1 hb1
def Bss(w:World)(A:Option Addr)(ls:List (List Int)):Prop:=
 ∀i,i<ls.length→∃b o Ai ci,A=some ⟨b,o,none⟩∧b<w.heap.size∧w.cell? ⟨b,o+i,none⟩=some (.slice Ai (ls.getD i []).length ci)∧Bs w Ai (ls.getD i [])∧(ls.getD i []).length≤ci
theorem Bss.nil(w:World)(A:Option Addr):Bss w A []:=fun i hi=>by simp at hi
theorem Bss.below{w w':World}{A:Option Addr}{l:List (List Int)}(h:Bss w A l)(hb:Below w.heap.size w w'):Bss w' A l:=fun i hi=>by
 obtain⟨b,o,Ai,ci,e,hlt,hc,hbs,hcap⟩:=h i hi;exact⟨b,o,Ai,ci,e,Nat.lt_of_lt_of_le hlt hb.size,(hb.cell (p:=⟨b,o+i,none⟩) hlt).trans hc,hbs.below hb,hcap⟩
theorem Bss.at_{w:World}{A:Option Addr}{l:List (List Int)}(h:Bss w A l){i:Nat}(hi:i<l.length):∃b o Ai ci x,Is x (l.getD i [])∧A=some ⟨b,o,none⟩∧b<w.heap.size∧w.cell? ⟨b,o+i,none⟩=some (.slice Ai x.length ci)∧Bs w Ai x∧x.length≤ci:=by
 obtain⟨b,o,Ai,ci,h1,h2,h3,h4,h5⟩:=h i hi;exact⟨b,o,Ai,ci,_,rfl,h1,h2,h3,h4,h5⟩
def flat(ls:List (List Int)):List Int:=ls.flatten
theorem flat_take(ls:List (List Int))(k:Nat)(h:k<ls.length):flat (ls.take (k+1))=flat (ls.take k)++ls.getD k []:=by
 unfold flat;rw[List.take_succ_eq_append_getElem h,List.flatten_append];simp[List.getD_eq_getElem?_getD,List.getElem?_eq_getElem h]
theorem flat_take_le(ls:List (List Int))(k:Nat):(flat (ls.take k)).length≤(flat ls).length:=by
 unfold flat;have:ls.flatten=(ls.take k).flatten++(ls.drop k).flatten:=by rw[← List.flatten_append,List.take_append_drop]
 rw[this,List.length_append];omega
theorem c_joined(A:Option Addr)(c:Nat)(ls:List (List Int))(w:World)(hb:Bss w A ls)(hn:ls.length≤10000000000000)(hl:(flat ls).length≤10000000000000):
  Calls Tryz.prog 44 #[.slice A ls.length c] w (OutB w (flat ls)):=by
 go_enter Tryz.func44,Tryz.ntmps44
 go_wp2
 go_loopw [3,8] (fun v u wr=>∃k:Nat,∃A c pre,Is pre (flat (ls.take k))∧k≤ls.length∧v=.slice A pre.length c∧u=.int .i64 k∧OwnB w.heap.size wr A c pre∧Below w.heap.size w wr)
  (fun _ u _=>ls.length-(intOf u).toNat)
 case atStart=>exact⟨0,none,0,[],rfl,Nat.zero_le _,rfl,rfl,OwnB.nil _ _,Below.refl _ _⟩
 case round=>
  obtain⟨k,A1,c1,pre,hpre,hk,rfl,rfl,hown,hbr⟩:=hrel;have hz:=hbr.size;by_cases hlt:k<ls.length
  ·obtain⟨b,o,Ai,ci,x,hx,rfl,hbs,hc,hbi,hci⟩:=(hb.below hbr).at_ hlt;have hs1:=flat_take ls k hlt;have hs2:=flat_take_le ls (k+1);rw[← hx.out]at hs1;rw[hs1,← hpre.out,List.length_append]at hs2;have HS:=Is.hid hs1;clear hs1
   go_wp2_with (at_builtin;refine stop ?_)
   (refine on_ ?_;refine app_u8 rfl (.tmp 12) (.tmp 13) rfl rfl rfl hown hbi (by first|omega|(simp;omega)) (by first|omega|(simp;omega)) ?_)
   intro l3 A3 c3 w3 hl3 hn3 ho3 hb3 _ _
   go_wp2
   go_roundw
   case rel=>
    refine⟨k+1,A3,c3,l3,?_,by omega,rfl,by go_num,ho3,hbr.trans hb3⟩;unfold Is;rw[hl3.out,hpre.out,HS.out]
   case measure=>simp[intOf];omega
  ·go_wp2
   go_ret
   refine OutB.mk' ?_ hown hbr;rw[hpre.out,List.take_of_length_le (by omega)]
def Far(A:Option Addr)(x:List Int)(g:Option Nat):Prop:=x≠[]→blkOf A≠g
theorem Bs.blk{w:World}{A:Option Addr}{x:List Int}(h:Bs w A x)(hx:x≠[]):∃k,blkOf A=some k∧k<w.heap.size:=by
 obtain⟨b,o,rfl,hb,_⟩:=h 0 (by rcases x with _|_ <;> simp_all);exact⟨b,rfl,hb⟩
theorem Bs.grown{w w':World}{A:Option Addr}{x:List Int}{g:Option Nat}(h:Bs w A x)(hg:w.grownBy w' g)(hf:Far A x g):Bs w' A x:=fun i hi=>by
 obtain⟨b,o,rfl,hb,hc⟩:=h i hi;have hx:x≠[]:=by rintro rfl;simp at hi
 exact⟨b,o,rfl,Nat.lt_of_lt_of_le hb hg.size,(gb_cell hg hb (hf hx)).trans hc⟩
theorem Far.nil(A:Option Addr)(g:Option Nat):Far A [] g:=fun h=>absurd rfl h
theorem Far.none(A:Option Addr)(x:List Int){w:World}(h:Bs w A x):Far A x none:=fun hx=>by
 obtain⟨k,hk,_⟩:=h.blk hx;rw[hk];simp
theorem far_old{w0 w:World}{A A2:Option Addr}{x l:List Int}{c base:Nat}(hx:Bs w0 A2 x)(ho:OwnB base w A c l)(hb:w0.heap.size≤base):Far A2 x (blkOf A):=fun h e=>by
 obtain⟨k,hk,hlt⟩:=hx.blk h;have:=(ho.blk_ge k (e▸hk)).1;omega
theorem far_new{w w2:World}{A A2:Option Addr}{x l:List Int}{c c2 base base2:Nat}(hx:OwnB base2 w2 A2 c2 x)(ho:OwnB base w A c l)(hb:w.heap.size≤base2):Far A2 x (blkOf A):=fun _ e=>by
 cases hA:blkOf A with
 |none=>
  rcases hx.form with⟨_,_,rfl⟩|⟨g,cur,rfl,_⟩
  ·contradiction
  ·rw[hA]at e;cases e
 |some k=>
  have h1:=(ho.blk_ge k hA).2;have h2:=(hx.blk_ge k (e.trans hA)).1;omega
theorem Far.step{w:World}{A A' A2:Option Addr}{x:List Int}(h:Far A2 x (blkOf A))(hx:Bs w A2 x)(hn:blkOf A'=blkOf A∨∃k,blkOf A'=some k∧w.heap.size≤k):Far A2 x (blkOf A'):=fun h0=>by
 rcases hn with e|⟨k,e,hk⟩
 ·rw[e];exact h h0
 ·obtain⟨k',e',hlt⟩:=hx.blk h0;rw[e,e'];intro h';injection h' with h';omega
def AddB(base:Nat)(w:World)(A:Option Addr)(l:List Int)(e:Ending)(w':World):Prop:=
 ∃l' A' c',Is l' l∧e=.returned (.slice A' l'.length c')∧OwnB base w' A' c' l'∧w.grownBy w' (blkOf A)∧(blkOf A'=blkOf A∨∃k,blkOf A'=some k∧w.heap.size≤k)
theorem AddB.mk'{base:Nat}{w w':World}{A A':Option Addr}{l l':List Int}{c:Nat}(hl:l'=l)(h:OwnB base w' A' c l')(hg:w.grownBy w' (blkOf A))(hn:blkOf A'=blkOf A∨∃k,blkOf A'=some k∧w.heap.size≤k):
  AddB base w A l (.returned (.slice A' l'.length c)) w':=by
 exact⟨l',A',c,hl,rfl,h,hg,hn⟩
theorem at_trans{w w1:World}{A A1 A2:Option Addr}(h1:blkOf A1=blkOf A∨∃k,blkOf A1=some k∧w.heap.size≤k)(hs:w.heap.size≤w1.heap.size)(h2:blkOf A2=blkOf A1∨∃k,blkOf A2=some k∧w1.heap.size≤k):blkOf A2=blkOf A∨∃k,blkOf A2=some k∧w.heap.size≤k:=by
 rcases h2 with e2|⟨k,e2,hk⟩
 ·rcases h1 with e1|⟨k,e1,hk⟩
  ·exact .inl (e2.trans e1)
  ·exact .inr ⟨k,e2.trans e1,hk⟩
 ·exact .inr ⟨k,e2,by omega⟩
theorem at_app{w w0:World}{A A1:Option Addr}(h:blkOf A1=blkOf A∨blkOf A1=some w.heap.size)(hs:w0.heap.size≤w.heap.size):blkOf A1=blkOf A∨∃k,blkOf A1=some k∧w0.heap.size≤k:=h.imp id fun e=>⟨_,e,hs⟩
theorem gb_step{w w1 w2:World}{A A1:Option Addr}(h1:w.grownBy w1 (blkOf A))(hn:blkOf A1=blkOf A∨∃k,blkOf A1=some k∧w.heap.size≤k)(h2:w1.grownBy w2 (blkOf A1)):w.grownBy w2 (blkOf A):=
 ⟨h2.os.trans h1.os,h2.tape.trans h1.tape,h2.output.trans h1.output,Nat.le_trans h1.size h2.size,fun i hi hne=>by
  refine(h2.block i (Nat.lt_of_lt_of_le hi h1.size) ?_).trans (h1.block i hi hne);rcases hn with e|⟨k,e,hk⟩
  ·rw[e];exact hne
  ·rw[e];intro h;injection h with h;omega⟩
theorem or_byte(m:Nat):bits .or .u8 ((m:Int) % 256) 128=((m % 128+128:Nat):Int):=by
 have e2:(m:Int) % 256=((m % 256:Nat):Int):=by omega
 rw[e2];have h1:=u8_or_nat (m % 256) 128 (by omega) (by omega);have:(m % 256) ||| 128=m % 128+128:=by
  have:∀x:Fin 256,x.val ||| 128=x.val % 128+128:=by decide+kernel
  rw[this ⟨m % 256,by omega⟩];show m % 256 % 128+128=_
  omega
 rw[this]at h1;exact h1
theorem c_putUvarintN{base:Nat}{A:Option Addr}{c:Nat}{l:List Int}(n:Nat)(w:World)(ho:OwnB base w A c l)(hbase:base≤w.heap.size)(hl:l.length≤20000000000000)(hn:n≤9223372036854775807):
  Calls Tryz.prog 146 #[.slice A l.length c,.int .u64 n] w (AddB base w A (l++vi n)):=by
 go_enter Tryz.func146,Tryz.ntmps146
 go_wp2
 go_loopw [0,1] (fun v u wr=>∃m:Nat,∃A' c' pre,Is (l++vi n) (pre++vi m)∧m≤n∧v=.slice A' pre.length c'∧u=.int .u64 m∧OwnB base wr A' c' pre∧w.grownBy wr (blkOf A)∧(blkOf A'=blkOf A∨∃k,blkOf A'=some k∧w.heap.size≤k))
  (fun _ u _=>(intOf u).toNat)
 case atStart=>exact⟨n,A,c,l,rfl,Nat.le_refl _,rfl,rfl,ho,gb_refl _ _,.inl rfl⟩
 case round=>
  obtain⟨m,A',c',pre,hvi,hm,rfl,rfl,hown,hg,hat⟩:=hrel;have hz:=hg.size;have hpre:pre.length≤l.length+10:=by
   have h1:=congrArg List.length hvi.out;have h2:=vi_len63 n hn;rw[List.length_append,List.length_append]at h1;omega
  have HH:=Is.hid hat;clear hat;by_cases hlt:m<128
  ·go_wp2_with (at_builtin;refine stop ?_)
   (refine on_ ?_;refine app_u8 rfl (.tmp 15) (.tmp 18) rfl rfl (l2:=[_]) (c2:=1) rfl (hown.alloc _) (bs_one _ _ _) (by first|omega|(simp;omega)) (by first|omega|(simp;omega)) ?_)
   intro l1 A1 c1 w1 hl1 hn1 hown1 hb1 hg1 hat1;have H1:=Is.hid hat1;clear hat1
   go_wp2
   go_ret
   have ht:=at_app (w0:=wr) H1.out (by simp);refine AddB.mk' ?_ hown1 (gb_step hg HH.out (gb_trans (World.grownBy_alloc _ _ _) hg1)) (at_trans HH.out hz ht);rw[hl1.out,hvi.out,vi_lo m hlt]
  ·go_wp2_with (at_builtin;refine stop ?_)
   (refine on_ ?_;refine app_u8 rfl (.tmp 7) (.tmp 11) rfl rfl (l2:=[_]) (c2:=1) rfl (hown.alloc _) (bs_one _ _ _) (by first|omega|(simp;omega)) (by first|omega|(simp;omega)) ?_)
   intro l1 A1 c1 w1 hl1 hn1 hown1 hb1 hg1 hat1;have H1:=Is.hid hat1;clear hat1
   go_wp2
   go_roundw
   case rel=>
    have ht:=at_app (w0:=wr) H1.out (by simp);refine⟨m / 128,A1,c1,l1,?_,by omega,rfl,by simp,hown1,gb_step hg HH.out (gb_trans (World.grownBy_alloc _ _ _) hg1),at_trans HH.out hz ht⟩;unfold Is;rw[hl1.out,hvi.out,vi_hi m hlt,or_byte,List.append_assoc];rfl
   case measure=>simp[intOf];omega
theorem c_putUvarint{base:Nat}{A:Option Addr}{c:Nat}{l:List Int}(a:Int)(w:World)(ho:OwnB base w A c l)(hbase:base≤w.heap.size)(hl:l.length≤20000000000000)(h0:0≤a)(h1:a≤9223372036854775807):
  Calls Tryz.prog 146 #[.slice A l.length c,.int .u64 a] w (AddB base w A (l++vi a.toNat)):=by
 obtain⟨n,rfl⟩:=Int.eq_ofNat_of_zero_le h0;exact c_putUvarintN n w ho hbase hl (by omega)
theorem c_putNumber{base:Nat}{A:Option Addr}{c:Nat}{l:List Int}(f a:Int)(w:World)(ho:OwnB base w A c l)(hbase:base≤w.heap.size)(hl:l.length≤10000000000000)(hf:0≤f∧f≤15)(h0:0≤a)(h1:a≤9223372036854775807):
  Calls Tryz.prog 128 #[.slice A l.length c,.int .i64 f,.int .u64 a] w (AddB base w A (l++numL f.toNat a.toNat)):=by
 by_cases hz:a=0
 ·subst hz
  go_enter Tryz.func128,Tryz.ntmps128
  go_wp2
  go_ret
  exact AddB.mk' (by simp[numL]) ho (gb_refl _ _) (.inl rfl)
 ·have h1:(a == 0)=false:=by simpa using hz
  have hfin:Is (numL f.toNat a.toNat) ((f*8:Int)::vi a.toNat):=by unfold Is numL;rw[if_neg (by omega)];congr 1;omega
  clear hz;have e8:f*8 % 256=f*8:=by omega
  go_enter Tryz.func128,Tryz.ntmps128
  go_wp2_with (at_builtin;refine stop ?_)
  (refine on_ ?_;refine app_u8 rfl (.tmp 10) (.tmp 14) rfl rfl (l2:=[_]) (c2:=1) rfl (ho.alloc _) (bs_one _ _ _) (by first|omega|(simp;omega)) (by first|omega|(simp;omega)) ?_)
  intro l1 A1 c1 w1 hl1 hn1 ho1 hb1 hg1 hat1;have H1:=Is.hid hat1;clear hat1;simp only[List.length_singleton]at hn1;have hz1:=hg1.size;simp only[World.size_alloc]at hz1
  go_wp2_with (fail)
  refine(c_putUvarint _ _ ho1 (by omega) (by omega) h0 (by omega)).mono ?_;rintro e w2 ⟨l2,A2,c2,hl2,rfl,ho2,hg2,hat2⟩;have H2:=Is.hid hat2;clear hat2
  go_wp2
  go_ret
  have ht:=at_app (w0:=w) H1.out (by simp);refine AddB.mk' ?_ ho2 (gb_step (gb_trans (World.grownBy_alloc _ _ _) hg1) ht hg2) (at_trans ht (by omega) H2.out);rw[hl2.out,hl1.out,hfin.out,List.append_assoc];rfl
theorem c_putMessage{base:Nat}{A A2:Option Addr}{c c2:Nat}{l x:List Int}(f:Int)(w:World)(ho:OwnB base w A c l)(hbase:base≤w.heap.size)(hl:l.length≤10000000000000)(hf:0≤f∧f≤15)(hx:Bs w A2 x)(hfar:Far A2 x (blkOf A))(hlx:x.length≤10000000000000):
  Calls Tryz.prog 130 #[.slice A l.length c,.int .i64 f,.slice A2 x.length c2] w (AddB base w A (l++withinL f.toNat x)):=by
 have h2:=or_two f hf;have e8:(f*8+2) % 256=f*8+2:=by omega
 have hfin:Is (withinL f.toNat x) ((f*8+2:Int)::(vi x.length++x)):=by unfold Is withinL;congr 1;omega
 go_enter Tryz.func130,Tryz.ntmps130
 go_wp2_with (at_builtin;refine stop ?_)
 (refine on_ ?_;refine app_u8 rfl (.tmp 7) (.tmp 12) rfl rfl (l2:=[_]) (c2:=1) rfl (ho.alloc _) (bs_one _ _ _) (by first|omega|(simp;omega)) (by first|omega|(simp;omega)) ?_)
 intro l1 A1 c1 w1 hl1 hn1 ho1 hb1 hg1 hat1;have H1:=Is.hid hat1;clear hat1;simp only[List.length_singleton]at hn1;have hz1:=hg1.size;simp only[World.size_alloc]at hz1
 go_wp2_with (fail)
 refine(c_putUvarint _ _ ho1 (by omega) (by omega) (by omega) (by omega)).mono ?_;rintro e w2 ⟨l2,A3,c3,hl2,rfl,ho2,hg2,hat2⟩;have H2:=Is.hid hat2;clear hat2;have ht:=Is.hid (at_app (w0:=w) H1.out (by simp));have hg12:=gb_step (gb_trans (World.grownBy_alloc w _ _) hg1) ht.out hg2;have ht2:=Is.hid (at_trans ht.out (by omega) H2.out);have hx2:=hx.grown hg12 hfar;have hz2:=hg2.size;have hn2:l2.length≤l.length+11:=by
  have hv:=vi_len63 ((x.length:Int).toNat) (by omega);rw[hl2.out,List.length_append];omega
 go_wp2_with (at_builtin;refine stop ?_)
 (refine on_ ?_;refine app_u8 rfl (.tmp 18) (.tmp 19) rfl rfl rfl ho2 hx2 (by first|omega|(simp;omega)) (by first|omega|(simp;omega)) ?_)
 intro l4 A4 c4 w4 hl4 hn4 ho4 hb4 hg4 hat4;have H4:=Is.hid hat4;clear hat4
 go_wp2
 go_ret
 refine AddB.mk' ?_ ho4 (gb_step hg12 ht2.out hg4) (at_trans ht2.out (by omega) (at_app (w0:=w2) H4.out (Nat.le_refl _)));rw[hl4.out,hl2.out,hl1.out,hfin.out,Int.toNat_natCast];simp
theorem c_putText{base:Nat}{A A2:Option Addr}{c c2:Nat}{l x:List Int}(f:Int)(w:World)(ho:OwnB base w A c l)(hbase:base≤w.heap.size)(hl:l.length≤10000000000000)(hf:0≤f∧f≤15)(hx:Bs w A2 x)(hfar:Far A2 x (blkOf A))(hlx:x.length≤10000000000000):
  Calls Tryz.prog 131 #[.slice A l.length c,.int .i64 f,.slice A2 x.length c2] w (AddB base w A (l++someL f.toNat x)):=by
 by_cases h0:x=[]
 ·subst h0
  go_enter Tryz.func131,Tryz.ntmps131
  go_wp2
  go_ret
  exact AddB.mk' (by simp[someL]) ho (gb_refl _ _) (.inl rfl)
 ·have h1:((x.length:Int) == 0)=false:=by
   have:x.length≠0:=fun e=>h0 (List.eq_nil_of_length_eq_zero e)
   simp;omega
  have hfin:Is (someL f.toNat x) (withinL f.toNat x):=by unfold Is someL;rw[if_neg h0]
  clear h0
  go_enter Tryz.func131,Tryz.ntmps131
  go_wp2_with (fail)
  refine(c_putMessage _ _ ho hbase hl hf hx hfar hlx).mono ?_;rintro e w1 ⟨l1,A1,c1,hl1,rfl,ho1,hg1,hat1⟩;have H1:=Is.hid hat1;clear hat1
  go_wp2
  go_ret
  exact AddB.mk' (by rw[hl1.out,hfin.out]) ho1 hg1 H1.out
theorem AddB.out{w:World}{l:List Int}{e:Ending}{w':World}(h:AddB w.heap.size w none ([]++l) e w'):OutB w l e w':=by
 obtain⟨l',A,c,hl,he,ho,hg,_⟩:=h;exact⟨l',A,c,hl,he,ho,(OwnB.nil w.heap.size w).below (Nat.le_refl _) hg⟩
theorem c_putNumber0(f a:Int)(w:World)(hf:0≤f∧f≤15)(h0:0≤a)(h1:a≤9223372036854775807):
  Calls Tryz.prog 128 #[.slice none 0 0,.int .i64 f,.int .u64 a] w (OutB w (numL f.toNat a.toNat)):=
 (c_putNumber (l:=[]) f a w (OwnB.nil _ _) (Nat.le_refl _) (by simp) hf h0 h1).mono fun _ _ h=>h.out
theorem c_putMessage0{A2:Option Addr}{c2:Nat}{x:List Int}(f:Int)(w:World)(hf:0≤f∧f≤15)(hx:Bs w A2 x)(hlx:x.length≤10000000000000):
  Calls Tryz.prog 130 #[.slice none 0 0,.int .i64 f,.slice A2 x.length c2] w (OutB w (withinL f.toNat x)):=
 (c_putMessage (l:=[]) f w (OwnB.nil _ _) (Nat.le_refl _) (by simp) hf hx (Far.none _ _ hx) hlx).mono fun _ _ h=>h.out
theorem c_putText0{A2:Option Addr}{c2:Nat}{x:List Int}(f:Int)(w:World)(hf:0≤f∧f≤15)(hx:Bs w A2 x)(hlx:x.length≤10000000000000):
  Calls Tryz.prog 131 #[.slice none 0 0,.int .i64 f,.slice A2 x.length c2] w (OutB w (someL f.toNat x)):=
 (c_putText (l:=[]) f w (OwnB.nil _ _) (Nat.le_refl _) (by simp) hf hx (Far.none _ _ hx) hlx).mono fun _ _ h=>h.out
end Go.Proofs.YtjhnnjhaklohhaaGreatDoor
