/- The package's messages: times, versions, names of blocks; the fields of a header. The reference's messages: times, names of blocks. A header's parts: its cells in the reference and in the thin package, its fourteen leaves. Lists of structs: rows of cells, read and owned; one loaded, one put behind. Seats: their cells; lists of them. A list of leaves that a call makes: the slice of slices its own, the bytes in other blocks. The reference's sum of a header. (Printed by gen_hsum.py.) The package's sum of a header. (Printed by gen_hhash.py.) Contracts of the small functions on times and of 'below' (for the door seats: XTime without Add and later). Bytes as strings; bytes.Equal; what is well formed: the small functions. What 'set' asks of two seats; sizes. -/
import Derived.Test.YtjhnnjhaklohhaaGreatDoorM3
import Derived.Deep.DeepCutAuto
import Derived.Test.YtjhnnjhaklohhaaGreatDoorM6
import Derived.Test.YtjhnnjhaklohhaaGreatDoorM1
import Derived.Test.YtjhnnjhaklohhaaGreatDoorChecked
import Derived.IntWalk
import Derived.Laws.BytesArg
set_option linter.unusedVariables false
set_option linter.unusedSimpArgs false
set_option maxHeartbeats 4000000
set_option maxRecDepth 100000
namespace Go.Proofs.YtjhnnjhaklohhaaGreatDoor
open Go.RowKit
theorem sx_own{W w' w'':World}{base:Nat}{A:Option Addr}{c:Nat}{l:List Int}(h:Below W.heap.size W w'∧∀b o,b<W.heap.size→w'.cell? ⟨b,o,none⟩=W.cell? ⟨b,o,none⟩)(hg:w'.grownBy w'' (blkOf A))(ho:OwnB base w' A c l)(hb:W.heap.size≤base):
  Below W.heap.size W w''∧∀b o,b<W.heap.size→w''.cell? ⟨b,o,none⟩=W.cell? ⟨b,o,none⟩:=
 sx_of (h.1.grown hg h.1.size (fun k hk=>by have:=(ho.blk_ge k hk).1;omega))
theorem c_Unix(s n:Int)(w:World)(hs:0≤s∧s≤9000000000000000000):Calls Tryz.prog 129 #[.agg #[.int .i64 s,.int .i32 n]] w fun e w'=>e=.returned (.int .i64 (s-62135596800))∧Below w.heap.size w w':=by
 go_enter Tryz.func129,Tryz.ntmps129
 go_wp2
 go_ret
 exact⟨rfl,by(repeat' (first|exact Below.refl _ _|exact Nat.le_refl _|(with_reducible assumption)|refine Below.setCell ?_ ?_ _|refine Below.alloc ?_ ?_ _|refine below_drewN ?_ _|refine Below.drew ?_|(simp;done)|omega|(simp;omega)|(simp at *;omega)))⟩
theorem c_ConsM(a b:Int)(w:World)(ha:0≤a∧a≤9223372036854775807)(hb:0≤b∧b≤9223372036854775807):
  Calls Tryz.prog 106 #[.agg #[.int .u64 a,.int .u64 b]] w (OutB w (numL 1 a.toNat++numL 2 b.toNat)):=by
 go_enter Tryz.func106,Tryz.ntmps106
 go_upto_region 1 with (fail)
 have b1:Blk (w.alloc (.cells #[.int .u64 a,.int .u64 b] 150)) w.heap.size 150 #[.int .u64 a,.int .u64 b]:=(Blk.new _ _ _);have hW:Below w.heap.size w (w.alloc (.cells #[.int .u64 a,.int .u64 b] 150)):=(by(repeat' (first|exact Below.refl _ _|exact Nat.le_refl _|(with_reducible assumption)|refine Below.setCell ?_ ?_ _|refine Below.alloc ?_ ?_ _|refine below_drewN ?_ _|refine Below.drew ?_|(simp;done)|omega|(simp;omega)|(simp at *;omega))));have zW:(w.alloc (.cells #[.int .u64 a,.int .u64 b] 150)).heap.size=w.heap.size+1:=(by simp);generalize (w.alloc (.cells #[.int .u64 a,.int .u64 b] 150))=W at b1 hW zW⊢;have c1:=b1.cell
 go_region_held (fun w'=>Below (W).heap.size (W) w'∧∀b o,b<(W).heap.size→w'.cell? ⟨b,o,none⟩=(W).cell? ⟨b,o,none⟩) ((first|exact sx_drew0 _|exact sx_drew (by assumption)|exact sx_alloc (by assumption) _|exact sx_bytes (by assumption) _ _|exact sx_after (by assumption) (by assumption)|exact sx_own (by assumption) (by assumption) (by assumption) (by first|exact Nat.le_refl _|omega|(simp;omega))|exact sx_own (by assumption) (by assumption) (OwnB.after (by assumption) (by assumption)) (by first|exact Nat.le_refl _|omega|(simp;omega))))
  (first
   |(go_at_call 128;(with_reducible refine(c_putNumber0 _ _ _ (by omega) (by omega) (by omega)).mono ?_);rintro e w1 ⟨l1,A1,k1,hl1,rfl,ho1,hb1⟩)
   |(go_at_call 128;(with_reducible refine(c_putNumber _ _ _ ho1 hb1.size (by rw[hl1.out];have:=numL_len (1:Int).toNat a.toNat (by omega);omega) (by omega) (by omega) (by omega)).mono ?_);rintro e w2 ⟨l2,A2,k2,hl2,rfl,ho2,hg2,hat2⟩))
 have _t:=Is.hid hat2;clear hat2
 go_wp2
 go_ret
 exact OutB.mk' (by rw[hl2.out,hl1.out];rfl) (ho2.less (by first|omega|(simp;omega))) (sx_end hW (by assumption))
theorem c_TimeM(s n:Int)(w:World)(hs:62135596800≤s∧s≤9000000000000000000)(hn:0≤n∧n≤2147483647):
  Calls Tryz.prog 107 #[.agg #[.int .i64 s,.int .i32 n]] w (OutB w (numL 1 (s-62135596800).toNat++numL 2 n.toNat)):=by
 have e1:IntKind.u64.wrap (s-62135596800)=s-62135596800:=IntWalk.u64_in _ (by omega);have e2:IntKind.u64.wrap n=n:=IntWalk.u64_in _ (by omega);have e3:IntKind.i64.wrap n=n:=IntWalk.i64_in _ (by omega)
 go_enter Tryz.func107,Tryz.ntmps107
 go_upto_region 1 with (fail)
 have b1:Blk (w.alloc (.cells #[.int .i64 s,.int .i32 n] 80)) w.heap.size 80 #[.int .i64 s,.int .i32 n]:=(Blk.new _ _ _);have hW:Below w.heap.size w (w.alloc (.cells #[.int .i64 s,.int .i32 n] 80)):=(by(repeat' (first|exact Below.refl _ _|exact Nat.le_refl _|(with_reducible assumption)|refine Below.setCell ?_ ?_ _|refine Below.alloc ?_ ?_ _|refine below_drewN ?_ _|refine Below.drew ?_|(simp;done)|omega|(simp;omega)|(simp at *;omega))));have zW:(w.alloc (.cells #[.int .i64 s,.int .i32 n] 80)).heap.size=w.heap.size+1:=(by simp);generalize (w.alloc (.cells #[.int .i64 s,.int .i32 n] 80))=W at b1 hW zW⊢;have c1:=b1.cell
 go_region_held (fun w'=>Below (W).heap.size (W) w'∧∀b o,b<(W).heap.size→w'.cell? ⟨b,o,none⟩=(W).cell? ⟨b,o,none⟩) ((first|exact sx_drew0 _|exact sx_drew (by assumption)|exact sx_alloc (by assumption) _|exact sx_bytes (by assumption) _ _|exact sx_after (by assumption) (by assumption)|exact sx_own (by assumption) (by assumption) (by assumption) (by first|exact Nat.le_refl _|omega|(simp;omega))|exact sx_own (by assumption) (by assumption) (OwnB.after (by assumption) (by assumption)) (by first|exact Nat.le_refl _|omega|(simp;omega))))
  (first
   |((go_at_call 129;(with_reducible refine(c_Unix _ _ _ (by omega)).mono ?_);rintro e w0 ⟨rfl,hb0⟩);have hz0:W.heap.size≤w0.heap.size:=hb0.size)
   |(go_at_call 128;(with_reducible refine(c_putNumber0 _ _ _ (by omega) (by omega) (by omega)).mono ?_);rintro e w1 ⟨l1,A1,k1,hl1,rfl,ho1,hb1⟩)
   |(go_at_call 128;(with_reducible refine(c_putNumber _ _ _ ho1 hb1.size (by rw[hl1.out];have:=numL_len (1:Int).toNat (s-62135596800).toNat (by omega);omega) (by omega) (by omega) (by omega)).mono ?_);rintro e w2 ⟨l2,A2,k2,hl2,rfl,ho2,hg2,hat2⟩))
 have _t:=Is.hid hat2;clear hat2
 go_wp2
 go_ret
 exact OutB.mk' (by rw[hl2.out,hl1.out];rfl) (ho2.less (by first|omega|(simp;omega))) (sx_end hW (by assumption))
def pshL(p:Int)(r:List Int):List Int:=numL 1 p.toNat++someL 2 r
def bidL(s:List Int)(p:Int)(r:List Int):List Int:=someL 1 s++withinL 2 (pshL p r)
theorem pshL_len(p:Int)(r:List Int)(hp:p≤4294967295)(hr:r.length≤1000000000000):(pshL p r).length≤r.length+22:=by
 unfold pshL;have h1:=numL_len 1 p.toNat (by omega);have h2:=someL_len 2 r (by omega);rw[List.length_append];omega
theorem c_PshM(p:Int)(A:Option Addr)(c:Nat)(r:List Int)(w:World)(hp:0≤p∧p≤4294967295)(hr:Bs w A r)(hlr:r.length≤1000000000000):
  Calls Tryz.prog 132 #[.agg #[.int .u32 p,.slice A r.length c]] w (OutB w (pshL p r)):=by
 have e1:IntKind.u64.wrap p=p:=IntWalk.u64_in _ (by omega)
 go_enter Tryz.func132,Tryz.ntmps132
 go_upto_region 1 with (fail)
 have hr1:=hr.alloc (.cells #[.int .u32 p,.slice A r.length c] 115);have b1:Blk (w.alloc (.cells #[.int .u32 p,.slice A r.length c] 115)) w.heap.size 115 #[.int .u32 p,.slice A r.length c]:=Blk.new _ _ _;have hW:Below w.heap.size w (w.alloc (.cells #[.int .u32 p,.slice A r.length c] 115)):=by(repeat' (first|exact Below.refl _ _|exact Nat.le_refl _|(with_reducible assumption)|refine Below.setCell ?_ ?_ _|refine Below.alloc ?_ ?_ _|refine below_drewN ?_ _|refine Below.drew ?_|(simp;done)|omega|(simp;omega)|(simp at *;omega)))
 have zW:(w.alloc (.cells #[.int .u32 p,.slice A r.length c] 115)).heap.size=w.heap.size+1:=by simp
 generalize (w.alloc (.cells #[.int .u32 p,.slice A r.length c] 115))=W at b1 hW zW hr1⊢;have c1:=b1.cell;have hrd:Bs W.drew A r:=hr1
 go_region_held (fun w'=>Below (W).heap.size (W) w'∧∀b o,b<(W).heap.size→w'.cell? ⟨b,o,none⟩=(W).cell? ⟨b,o,none⟩) ((first|exact sx_drew0 _|exact sx_drew (by assumption)|exact sx_alloc (by assumption) _|exact sx_bytes (by assumption) _ _|exact sx_after (by assumption) (by assumption)|exact sx_own (by assumption) (by assumption) (by assumption) (by first|exact Nat.le_refl _|omega|(simp;omega))|exact sx_own (by assumption) (by assumption) (OwnB.after (by assumption) (by assumption)) (by first|exact Nat.le_refl _|omega|(simp;omega))))
  (first
   |(go_at_call 128;(with_reducible refine(c_putNumber0 _ _ _ (by omega) (by omega) (by omega)).mono ?_);rintro e w1 ⟨l1,A1,k1,hl1,rfl,ho1,hb1⟩)
   |(go_at_call 131;(with_reducible refine(c_putText _ _ ho1 hb1.size (by rw[hl1.out];have:=numL_len (1:Int).toNat p.toNat (by omega);omega) (by omega) (hrd.below hb1) (far_old hrd ho1 (Nat.le_refl _)) (by omega)).mono ?_);rintro e w2 ⟨l2,A2,k2,hl2,rfl,ho2,hg2,hat2⟩))
 have _t:=Is.hid hat2;clear hat2
 go_wp2
 go_ret
 exact OutB.mk' (by rw[hl2.out,hl1.out];rfl) (ho2.less (by first|omega|(simp;omega))) (sx_end hW (by assumption))
theorem c_BidM(p:Int)(A A':Option Addr)(c c':Nat)(s r:List Int)(w:World)(hp:0≤p∧p≤4294967295)(hs:Bs w A s)(hls:s.length≤1000000000000)(hr:Bs w A' r)(hlr:r.length≤1000000000000):
  Calls Tryz.prog 108 #[.agg #[.slice A s.length c,.int .u32 p,.slice A' r.length c']] w (OutB w (bidL s p r)):=by
 go_enter Tryz.func108,Tryz.ntmps108
 go_upto_region 1 with (fail)
 have hr1:=hr.alloc (.cells #[.slice A s.length c,.int .u32 p,.slice A' r.length c'] 117);have hs1:=hs.alloc (.cells #[.slice A s.length c,.int .u32 p,.slice A' r.length c'] 117);have b1:Blk (w.alloc (.cells #[.slice A s.length c,.int .u32 p,.slice A' r.length c'] 117)) w.heap.size 117 #[.slice A s.length c,.int .u32 p,.slice A' r.length c']:=Blk.new _ _ _;have hW:Below w.heap.size w (w.alloc (.cells #[.slice A s.length c,.int .u32 p,.slice A' r.length c'] 117)):=by(repeat' (first|exact Below.refl _ _|exact Nat.le_refl _|(with_reducible assumption)|refine Below.setCell ?_ ?_ _|refine Below.alloc ?_ ?_ _|refine below_drewN ?_ _|refine Below.drew ?_|(simp;done)|omega|(simp;omega)|(simp at *;omega)))
 have zW:(w.alloc (.cells #[.slice A s.length c,.int .u32 p,.slice A' r.length c'] 117)).heap.size=w.heap.size+1:=by simp
 generalize (w.alloc (.cells #[.slice A s.length c,.int .u32 p,.slice A' r.length c'] 117))=W at b1 hW zW hr1 hs1⊢;have c1:=b1.cell;have hrd:Bs W.drew A' r:=hr1;have hsd:Bs W.drew A s:=hs1
 go_region_held (fun w'=>Below (W).heap.size (W) w'∧∀b o,b<(W).heap.size→w'.cell? ⟨b,o,none⟩=(W).cell? ⟨b,o,none⟩) ((first|exact sx_drew0 _|exact sx_drew (by assumption)|exact sx_alloc (by assumption) _|exact sx_bytes (by assumption) _ _|exact sx_after (by assumption) (by assumption)|exact sx_own (by assumption) (by assumption) (by assumption) (by first|exact Nat.le_refl _|omega|(simp;omega))|exact sx_own (by assumption) (by assumption) (OwnB.after (by assumption) (by assumption)) (by first|exact Nat.le_refl _|omega|(simp;omega))))
  (first
   |(go_at_call 131;(with_reducible refine(c_putText0 _ _ (by omega) hsd (by omega)).mono ?_);rintro e w1 ⟨l1,A1,k1,hl1,rfl,ho1,hb1⟩)
   |(go_at_call 132;(with_reducible refine(c_PshM _ _ _ _ _ (by omega) (hrd.below hb1) (by omega)).mono ?_);rintro e w2 ⟨l2,A2,k2,hl2,rfl,ho2,hb2⟩)
   |(go_at_call 130;(with_reducible refine(c_putMessage _ _ (ho1.after hb2) (Nat.le_trans hb1.size hb2.size) (by rw[hl1.out];have:=someL_len (1:Int).toNat s (by omega);omega) (by omega) ho2.bs (far_new ho2 ho1 (Nat.le_refl _)) (by rw[hl2.out];have:=pshL_len p r (by omega) (by omega);omega)).mono ?_);rintro e w3 ⟨l3,A3,k3,hl3,rfl,ho3,hg3,hat3⟩))
 have _t:=Is.hid hat3;clear hat3
 go_wp2
 go_ret
 exact OutB.mk' (by rw[hl3.out,hl1.out,hl2.out];rfl) (ho3.less (by first|omega|(simp;omega))) (sx_end hW (by assumption))
theorem c_cdcInt64(a:Int)(w:World)(h0:0≤a)(h1:a≤9223372036854775807):Calls Tryz.prog 110 #[.int .i64 a] w (OutB w (numL 1 a.toNat)):=by
 go_enter Tryz.func110,Tryz.ntmps110
 go_wp2_with (go_at_call 128;(with_reducible refine(c_putNumber0 _ _ _ (by omega) (by omega) (by omega)).mono ?_);rintro e w1 ⟨l1,A1,k1,hl1,rfl,ho1,hb1⟩)
 go_ret
 exact OutB.mk' hl1.out ho1 hb1
theorem c_cdcBytes(A:Option Addr)(c:Nat)(x:List Int)(w:World)(hx:Bs w A x)(hl:x.length≤1000000000000):Calls Tryz.prog 111 #[.slice A x.length c] w (OutB w (someL 1 x)):=by
 by_cases h0:x=[]
 ·subst h0
  go_enter Tryz.func111,Tryz.ntmps111
  go_wp2
  go_ret
  exact OutB.mk' rfl (OwnB.nil _ _) (Below.refl _ _)
 ·have h1:((x.length:Int) == 0)=false:=by
   have:x.length≠0:=fun e=>h0 (List.eq_nil_of_length_eq_zero e)
   simp;omega
  clear h0
  go_enter Tryz.func111,Tryz.ntmps111
  go_wp2_with (go_at_call 131;(with_reducible refine(c_putText0 _ _ (by omega) hx (by omega)).mono ?_);rintro e w1 ⟨l1,A1,k1,hl1,rfl,ho1,hb1⟩)
  go_ret
  exact OutB.mk' hl1.out ho1 hb1
theorem c_cdcString(s:ByteArray)(w:World)(hl:s.size≤1000000000000):Calls Tryz.prog 109 #[.string s] w (OutB w (someL 1 (bytesOf s))):=by
 have kc:=fun(w:World)=>Lib.run_convert_string_bytes (P:=Tryz.prog) w 9 32 5 s Tryz.underlying9 Tryz.underlying32 Tryz.underlying5
 by_cases h0:s.size=0
 ·obtain rfl:s=⟨#[]⟩:=by
   cases s with
   |mk d=>
    have hd:d.size=0:=h0;rw[Array.eq_empty_of_size_eq_zero hd]
  go_enter Tryz.func109,Tryz.ntmps109
  go_wp2
  go_ret
  exact OutB.mk' rfl (OwnB.nil _ _) (Below.refl _ _)
 ·have h1:s.toList.isEmpty=false:=by
   rw[← Bool.not_eq_true,List.isEmpty_iff];intro e;rw[ByteArray.toList_eq]at e;apply h0;show s.data.size=0
   rw[← Array.length_toList,e];rfl
  have hB:=below_bytes (Below.refl w.heap.size w) (Nat.le_refl _) 5 s;clear h0
  go_enter Tryz.func109,Tryz.ntmps109
  go_wp2_with (fail)
  have hc:=c_putText0 (c2:=grownCap w s.size 0 5) 1 _ (by omega) (bs_conv w 5 s) (by rw[bytesOf_length];omega);rw[bytesOf_length]at hc;refine hc.mono ?_;rintro e w1 ⟨l1,A1,k1,hl1,rfl,ho1,hb1⟩
  go_wp2
  go_ret
  exact OutB.mk' hl1.out (ho1.less hB.size) (bz_then hB hb1)
theorem bss_of{w:World}{g:Nat}{t:TypeId}{vs:Array Value}{ls:List (List Int)}(hb:Blk w g t vs)(h:∀i,i<ls.length→∃Ai ci,vs[i]?=some (.slice Ai (ls.getD i []).length ci)∧Bs w Ai (ls.getD i [])∧(ls.getD i []).length≤ci):Bss w (some ⟨g,0,none⟩) ls:=fun i hi=>by
 obtain⟨Ai,ci,h1,h2,h3⟩:=h i hi;exact⟨g,0,Ai,ci,rfl,hb.lt,by rw[Nat.zero_add,hb.cell,h1],h2,h3⟩
theorem c_joined2{t:TypeId}{A1 A2:Option Addr}{c1 c2:Nat}{l1 l2:List Int}(g c:Nat)(w:World)(hb:Blk w g t #[.slice A1 l1.length c1,.slice A2 l2.length c2])(h1:Bs w A1 l1)(h2:Bs w A2 l2)(k1:l1.length≤c1)(k2:l2.length≤c2)(hl:l1.length+l2.length≤10000000000000):
  Calls Tryz.prog 44 #[.slice (some ⟨g,0,none⟩) 2 c] w (OutB w (l1++l2)):=by
 have h:=c_joined (some ⟨g,0,none⟩) c [l1,l2] w (bss_of hb (fun i hi=>by
  have:i=0∨i=1:=by simp at hi;omega
  rcases this with rfl|rfl
  ·exact⟨A1,c1,rfl,h1,k1⟩
  ·exact⟨A2,c2,rfl,h2,k2⟩)) (by simp) (by simp[flat];omega)
 simpa [flat]using h
theorem c_MomB(s n:Int)(w:World)(hs:0≤s∧s≤9000000000000000000)(hn:0≤n∧n≤2147483647):
  Calls Tryz.prog 49 #[.agg #[.int .i64 s,.int .i64 n]] w (OutB w (numL 1 s.toNat++numL 2 n.toNat)):=by
 go_enter Tryz.func49,Tryz.ntmps49
 go_upto_region 1 with (fail)
 have b1:Blk (w.alloc (.cells #[.int .i64 s,.int .i64 n] 68)) w.heap.size 68 #[.int .i64 s,.int .i64 n]:=(Blk.new _ _ _);have hW:Below w.heap.size w (w.alloc (.cells #[.int .i64 s,.int .i64 n] 68)):=(by(repeat' (first|exact Below.refl _ _|exact Nat.le_refl _|(with_reducible assumption)|refine Below.setCell ?_ ?_ _|refine Below.alloc ?_ ?_ _|refine below_drewN ?_ _|refine Below.drew ?_|(simp;done)|omega|(simp;omega)|(simp at *;omega))));have zW:(w.alloc (.cells #[.int .i64 s,.int .i64 n] 68)).heap.size=w.heap.size+1:=(by simp);generalize (w.alloc (.cells #[.int .i64 s,.int .i64 n] 68))=W at b1 hW zW⊢;have c1:=b1.cell
 go_region_held (fun w'=>Below (W).heap.size (W) w'∧∀b o,b<(W).heap.size→w'.cell? ⟨b,o,none⟩=(W).cell? ⟨b,o,none⟩) ((first|exact sx_drew0 _|exact sx_drew (by assumption)|exact sx_alloc (by assumption) _|exact sx_bytes (by assumption) _ _|exact sx_after (by assumption) (by assumption)))
  (first
   |((go_at_call 46;(with_reducible refine(c_number 1 _ _ (by omega) (by omega) (by omega)).mono ?_);rintro e w1 ⟨l1,A1,k1,hl1,rfl,ho1,hb1⟩))
   |((go_at_call 46;(with_reducible refine(c_number 2 _ _ (by omega) (by omega) (by omega)).mono ?_);rintro e w2 ⟨l2,A2,k2,hl2,rfl,ho2,hb2⟩))
   |((go_at_call 44;(with_reducible refine(c_joined2 _ _ _ (Blk.new _ _ _) ((ho1.after hb2).bs.alloc _) (ho2.bs.alloc _) ho1.cap ho2.cap (by rw[hl1.out,hl2.out];have:=numL_len (1:Int).toNat s.toNat (by omega);have:=numL_len (2:Int).toNat n.toNat (by omega);omega)).mono ?_);rintro e w3 ⟨l3,A3,k3,hl3,rfl,ho3,hb3⟩)))
 go_wp2
 go_ret
 have hz1:W.heap.size≤w1.heap.size:=hb1.size;have hz2:=hb2.size;exact OutB.mk' (by rw[hl3.out,hl1.out,hl2.out];rfl) (ho3.less (by first|omega|(simp;omega))) (sx_end hW (by assumption))
theorem c_BlkB(p:Int)(A A':Option Addr)(c c':Nat)(s r:List Int)(w:World)(hp:0≤p∧p≤4294967295)(hs:Bs w A s)(hls:s.length≤1000000000000)(hr:Bs w A' r)(hlr:r.length≤1000000000000):
  Calls Tryz.prog 50 #[.agg #[.slice A s.length c,.int .i64 p,.slice A' r.length c']] w (OutB w (bidL s p r)):=by
 go_enter Tryz.func50,Tryz.ntmps50
 go_upto_region 1 with (fail)
 have hr1:=hr.alloc (.cells #[.slice A s.length c,.int .i64 p,.slice A' r.length c'] 69);have hs1:=hs.alloc (.cells #[.slice A s.length c,.int .i64 p,.slice A' r.length c'] 69);have b1:Blk (w.alloc (.cells #[.slice A s.length c,.int .i64 p,.slice A' r.length c'] 69)) w.heap.size 69 #[.slice A s.length c,.int .i64 p,.slice A' r.length c']:=Blk.new _ _ _;have hW:Below w.heap.size w (w.alloc (.cells #[.slice A s.length c,.int .i64 p,.slice A' r.length c'] 69)):=by(repeat' (first|exact Below.refl _ _|exact Nat.le_refl _|(with_reducible assumption)|refine Below.setCell ?_ ?_ _|refine Below.alloc ?_ ?_ _|refine below_drewN ?_ _|refine Below.drew ?_|(simp;done)|omega|(simp;omega)|(simp at *;omega)))
 have zW:(w.alloc (.cells #[.slice A s.length c,.int .i64 p,.slice A' r.length c'] 69)).heap.size=w.heap.size+1:=by simp
 generalize (w.alloc (.cells #[.slice A s.length c,.int .i64 p,.slice A' r.length c'] 69))=W at b1 hW zW hr1 hs1⊢;have c1:=b1.cell;have hrd:Bs W.drew A' r:=hr1;have hsd:Bs W.drew A s:=hs1;have n1:=someL_len 1 s (by omega);have n2:=numL_len 1 p.toNat (by omega);have n3:=someL_len 2 r (by omega)
 go_region_held (fun w'=>Below (W).heap.size (W) w'∧∀b o,b<(W).heap.size→w'.cell? ⟨b,o,none⟩=(W).cell? ⟨b,o,none⟩) ((first|exact sx_drew0 _|exact sx_drew (by assumption)|exact sx_alloc (by assumption) _|exact sx_bytes (by assumption) _ _|exact sx_after (by assumption) (by assumption)))
  (first
   |((go_at_call 48;(with_reducible refine(c_some 1 _ _ _ _ (by omega) hsd (by omega)).mono ?_);rintro e w1 ⟨l1,A1,k1,hl1,rfl,ho1,hb1⟩);have m1:l1.length≤s.length+11:=(by rw[hl1.out];exact n1))
   |((go_at_call 46;(with_reducible refine(c_number 1 _ _ (by omega) (by omega) (by omega)).mono ?_);rintro e w2 ⟨l2,A2,k2,hl2,rfl,ho2,hb2⟩);have m2:l2.length≤11:=(by rw[hl2.out];exact n2))
   |((go_at_call 48;(with_reducible refine(c_some 2 _ _ _ _ (by omega) ((hrd.below hb1).below hb2) (by omega)).mono ?_);rintro e w3 ⟨l3,A3,k3,hl3,rfl,ho3,hb3⟩);have m3:l3.length≤r.length+11:=(by rw[hl3.out];exact n3))
   |((go_at_call 44;(with_reducible refine(c_joined2 _ _ _ (Blk.new _ _ _) ((ho2.after hb3).bs.alloc _) (ho3.bs.alloc _) ho2.cap ho3.cap (by omega)).mono ?_);rintro e w4 ⟨l4,A4,k4,hl4,rfl,ho4,hb4⟩);have m4:l4.length≤r.length+22:=(by rw[hl4.out,List.length_append];omega))
   |((go_at_call 45;(with_reducible refine(c_within 2 _ _ _ _ (by omega) ho4.bs (by omega)).mono ?_);rintro e w5 ⟨l5,A5,k5,hl5,rfl,ho5,hb5⟩);have m5:l5.length≤l4.length+11:=(by rw[hl5.out];exact withinL_len _ _ (by omega)))
   |((go_at_call 44;(with_reducible refine(c_joined2 _ _ _ (Blk.new _ _ _) (((((ho1.after hb2).after hb3).alloc _).after hb4).after hb5 |>.bs.alloc _) (ho5.bs.alloc _) ho1.cap ho5.cap (by omega)).mono ?_);rintro e w6 ⟨l6,A6,k6,hl6,rfl,ho6,hb6⟩)))
 go_wp2
 go_ret
 have hz1:W.heap.size≤w1.heap.size:=hb1.size;have hz2:=hb2.size;have hz3:=hb3.size;have hz4:=hb4.size;have hz5:=hb5.size;simp only[World.size_alloc]at hz4;exact OutB.mk' (by rw[hl6.out,hl1.out,hl5.out,hl4.out,hl2.out,hl3.out];rfl) (ho6.less (by first|omega|(simp;omega))) (sx_end hW (by assumption))
structure HSl where
 A:Option Addr
 c:Nat
 l:List Int
def HSl.v(s:HSl):Value:=.slice s.A s.l.length s.c
structure HSl.ok(s:HSl)(w:World):Prop where
 bs:Bs w s.A s.l
 fm:Fm s.A s.l.length s.c
 cap:s.l.length≤s.c
 b8:Bytes s.l
 len:s.l.length≤2200000000
 blk:∀k,blkOf s.A=some k→k<w.heap.size
theorem HSl.ok.after{s:HSl}{w w':World}(h:s.ok w)(hb:Below w.heap.size w w'):s.ok w':=⟨h.bs.after hb,h.fm,h.cap,h.b8,h.len,fun k hk=>Nat.lt_of_lt_of_le (h.blk k hk) hb.size⟩
theorem HSl.ok.at0{s:HSl}{w:World}(h:s.ok w):BsAt 0 s.l s.v w:=⟨s.l,s.A,s.c,rfl,rfl,h.fm,h.cap,h.bs,fun k hk=>⟨Nat.zero_le _,h.blk k hk⟩⟩
theorem BsAt.sl{B:Nat}{l:List Int}{v:Value}{w:World}(h:BsAt B l v w)(h8:Bytes l)(hn:l.length≤2200000000):∃s:HSl,v=s.v∧s.ok w∧Is s.l l:=by
 obtain⟨l',A,c,h1,h2,h3,h4,h5,h6⟩:=h;have e:l'=l:=h1;subst e;exact⟨⟨A,c,l'⟩,h2,⟨h5,h3,h4,h8,hn,fun k hk=>(h6 k hk).2⟩,rfl⟩
def HSl.nil:HSl:=⟨none,0,[]⟩
theorem HSl.nil_ok(w:World):HSl.nil.ok w:=⟨Bs.nil _ _,.inl ⟨rfl,rfl,rfl⟩,Nat.le_refl _,(fun x hx=>by cases hx),by decide,(fun k hk=>by cases hk)⟩
theorem step_un{P:Program}{ops:Array Oper}{Q:Exit→Act→World→Prop}{o:Oper}{a:Act}{w:World}{K:Act→World→Prop}{j d:Nat}{b:Bool}{oj:Oper}(hg:o.guard=some (j,b))(hj:ops[j]?=some oj)(hd:oj.dst=some d)(hv:a.tmps.getD d undef=undef)(h:K (a.put o.dst undef) w):
  if Region.wanted o (yielded ops a.tmps)=true then o.wp P a w K Q else K (a.put o.dst undef) w:=by
 have hy:yielded ops a.tmps j=none:=by
  unfold yielded;rw[hj];simp only[Option.bind_some,hd];rw[Array.getD_eq_getD_getElem?]at hv
  cases h:a.tmps[d]? with
  |none=>rfl
  |some v=>
   rw[h]at hv;simp only[Option.getD_some]at hv;subst hv;rfl
 rw[if_neg (by simp[Region.wanted,hg,hy])];exact h
theorem gu{a:Act}{t:Nat}{v:Value}(h:a.tmps[t]?.getD undef=v):a.eval (.tmp t)=v:=by
 show a.tmps.getD t undef=v
 rw[Array.getD_eq_getD_getElem?];exact h
theorem BsAt.cells{B:Nat}{l:List Int}{v:Value}{w:World}(h:BsAt B l v w):v.cells=#[v]:=by
 obtain⟨l',A,c,_,rfl,_⟩:=h;rfl
structure Hd where
 vb:Int
 va:Int
 ch:ByteArray
 ht:Int
 sec:Int
 ns:Int
 bh:HSl
 bt:Int
 bp:HSl
 hh:Nat→HSl
 pr:ByteArray
def Hd.cells(H:Hd):Array Value:=
 #[.int .i64 H.vb,.int .i64 H.va,.string H.ch,.int .i64 H.ht,.int .i64 H.sec,.int .i64 H.ns,H.bh.v,.int .i64 H.bt,H.bp.v,(H.hh 0).v,(H.hh 1).v,(H.hh 2).v,(H.hh 3).v,(H.hh 4).v,(H.hh 5).v,(H.hh 6).v,(H.hh 7).v,.string H.pr]
structure Hd.num(H:Hd):Prop where
 vb:0≤H.vb∧H.vb≤9223372036854775807
 va:0≤H.va∧H.va≤9223372036854775807
 ht:0≤H.ht∧H.ht≤9223372036854775807
 sec:0≤H.sec∧H.sec≤4000000000
 ns:0≤H.ns∧H.ns≤999999999
 bt:0≤H.bt∧H.bt≤4294967295
 ch:H.ch.size≤2200000000
 pr:H.pr.size≤2200000000
structure Hd.ok(H:Hd)(w:World):Prop where
 bh:H.bh.ok w
 bp:H.bp.ok w
 hh:∀i,i<8→(H.hh i).ok w
theorem Hd.ok.after{H:Hd}{w w':World}(h:H.ok w)(hb:Below w.heap.size w w'):H.ok w':=⟨h.bh.after hb,h.bp.after hb,fun i hi=>(h.hh i hi).after hb⟩
def Hd.leaves5(H:Hd):List (List Int):=
 [numL 1 H.vb.toNat++numL 2 H.va.toNat,someL 1 (bytesOf H.ch),numL 1 H.ht.toNat,numL 1 H.sec.toNat++numL 2 H.ns.toNat,bidL H.bh.l H.bt H.bp.l]
def Hd.sums(H:Hd)(k:Nat):List (List Int):=(List.range k).map fun i=>someL 1 (H.hh i).l
def Hd.leaves(H:Hd):List (List Int):=H.leaves5++H.sums 8++[someL 1 (bytesOf H.pr)]
theorem Hd.sums_succ(H:Hd)(k:Nat):H.sums (k+1)=H.sums k++[someL 1 (H.hh k).l]:=by
 unfold Hd.sums;rw[List.range_succ,List.map_append];rfl
theorem flat2(a b:List Int):flat [a,b]=a++b:=by simp[flat]
theorem vi_bytes(n:Nat):Bytes (vi n):=by
 induction n using Nat.strongRecOn with
 |_ n ih=>
  by_cases h:n<128
  ·rw[vi_lo n h];intro x hx;rw[List.mem_singleton.1 hx];unfold U8;omega
  ·rw[vi_hi n h];intro x hx;rcases List.mem_cons.1 hx with rfl|hx
   ·unfold U8;omega
   ·exact ih (n / 128) (by omega) x hx
theorem Bytes.cons{x:Int}{l:List Int}(h:U8 x)(hl:Bytes l):Bytes (x::l):=fun y hy=>by
 rcases List.mem_cons.1 hy with rfl|hy
 ·exact h
 ·exact hl y hy
theorem numL_bytes(f n:Nat)(hf:f≤15):Bytes (numL f n):=by
 unfold numL;split
 ·exact Bytes.nil
 ·exact Bytes.cons (by unfold U8;omega) (vi_bytes _)
theorem withinL_bytes(f:Nat)(b:List Int)(hf:f≤15)(hb:Bytes b):Bytes (withinL f b):=by
 unfold withinL;exact Bytes.cons (by unfold U8;omega) ((vi_bytes _).append hb)
theorem someL_bytes(f:Nat)(b:List Int)(hf:f≤15)(hb:Bytes b):Bytes (someL f b):=by
 unfold someL;split
 ·exact Bytes.nil
 ·exact withinL_bytes f b hf hb
theorem bidL_bytes(s:List Int)(p:Int)(r:List Int)(hs:Bytes s)(hr:Bytes r):Bytes (bidL s p r):=by
 unfold bidL pshL;exact(someL_bytes 1 s (by decide) hs).append (withinL_bytes 2 _ (by decide) ((numL_bytes 1 _ (by decide)).append (someL_bytes 2 r (by decide) hr)))
theorem bidL_len(s:List Int)(p:Int)(r:List Int)(hs:s.length≤2200000000)(hp:p≤4294967295)(hr:r.length≤2200000000):(bidL s p r).length≤6000000000:=by
 unfold bidL;have h1:=someL_len 1 s (by omega);have h2:=pshL_len p r hp (by omega);have h3:=withinL_len 2 (pshL p r) (by omega);rw[List.length_append];omega
theorem bytesOf_bytes(s:ByteArray):Bytes (bytesOf s):=fun x hx=>bytesOf_range s x hx
theorem Small.nil:Small []:=fun x hx=>by cases hx
theorem Small.cons{x:List Int}{l:List (List Int)}(h8:Bytes x)(hn:x.length≤100000000000)(h:Small l):Small (x::l):=fun y hy=>by
 rcases List.mem_cons.1 hy with rfl|hy
 ·exact⟨h8,hn⟩
 ·exact h y hy
theorem Small.append{a b:List (List Int)}(ha:Small a)(hb:Small b):Small (a++b):=fun x hx=>by
 rcases List.mem_append.1 hx with h|h
 ·exact ha x h
 ·exact hb x h
theorem Hd.small{H:Hd}{w:World}(hn:H.num)(hk:H.ok w):Small H.leaves:=by
 have e0:=numL_len 1 H.vb.toNat (by have:=hn.vb;omega);have e1:=numL_len 2 H.va.toNat (by have:=hn.va;omega);have e2:=numL_len 1 H.ht.toNat (by have:=hn.ht;omega);have e3:=numL_len 1 H.sec.toNat (by have:=hn.sec;omega);have e4:=numL_len 2 H.ns.toNat (by have:=hn.ns;omega);have e5:=someL_len 1 (bytesOf H.ch) (by rw[bytesOf_length];have:=hn.ch;omega);have e6:=someL_len 1 (bytesOf H.pr) (by rw[bytesOf_length];have:=hn.pr;omega);have e7:=bidL_len H.bh.l H.bt H.bp.l hk.bh.len hn.bt.2 hk.bp.len;rw[bytesOf_length]at e5 e6;have hc:=hn.ch;have hp:=hn.pr;unfold Hd.leaves Hd.leaves5;refine((Small.cons ?_ ?_ (Small.cons ?_ ?_ (Small.cons ?_ ?_ (Small.cons ?_ ?_ (Small.cons ?_ ?_ Small.nil))))).append ?_).append (Small.cons ?_ ?_ Small.nil)
 ·exact(numL_bytes 1 _ (by decide)).append (numL_bytes 2 _ (by decide))
 ·rw[List.length_append];omega
 ·exact someL_bytes 1 _ (by decide) (bytesOf_bytes _)
 ·omega
 ·exact numL_bytes 1 _ (by decide)
 ·omega
 ·exact(numL_bytes 1 _ (by decide)).append (numL_bytes 2 _ (by decide))
 ·rw[List.length_append];omega
 ·exact bidL_bytes _ _ _ hk.bh.b8 hk.bp.b8
 ·omega
 ·intro x hx;obtain⟨i,hi,rfl⟩:=List.mem_map.1 hx;have hi:=List.mem_range.1 hi;have:=(hk.hh i hi).len;have h:=someL_len 1 (H.hh i).l (by omega);exact⟨someL_bytes 1 _ (by decide) (hk.hh i hi).b8,by omega⟩
 ·exact someL_bytes 1 _ (by decide) (bytesOf_bytes _)
 ·omega
theorem conv_at(w:World)(e:TypeId)(s:ByteArray):BsAt 0 (bytesOf s) (.slice (some ⟨w.heap.size,0,none⟩) s.size (grownCap w s.size 0 e)) (Lib.bytesWorld w e s):=
 ⟨bytesOf s,_,_,rfl,by rw[bytesOf_length],.inr ⟨_,_,rfl⟩,by rw[bytesOf_length];exact grownCap_ge _ _ _ _,bs_conv w e s,fun k hk=>⟨Nat.zero_le _,by
  injection hk with hk;have hk:w.heap.size=k:=hk;rw[Lib.bytesWorld_size];omega⟩⟩
def RowsAt(w:World)(A:Option Addr)(k:Nat)(R:List (List Value)):Prop:=
 ∀i r,R[i]?=some r→r.length=k∧∃b o,A=some ⟨b,o,none⟩∧b<w.heap.size∧∀j v,r[j]?=some v→w.cell? ⟨b,o+i*k+j,none⟩=some v
theorem RowsAt.nil(w:World)(A:Option Addr)(k:Nat):RowsAt w A k []:=fun i r h=>by simp at h
theorem RowsAt.after{w w':World}{A:Option Addr}{k:Nat}{R:List (List Value)}(h:RowsAt w A k R)(hb:Below w.heap.size w w'):RowsAt w' A k R:=fun i r hr=>by
 obtain⟨h1,b,o,e,hlt,hc⟩:=h i r hr;exact⟨h1,b,o,e,Nat.lt_of_lt_of_le hlt hb.size,fun j v hj=>(hb.cell (p:=⟨b,o+i*k+j,none⟩) hlt).trans (hc j v hj)⟩
theorem RowsAt.take{w:World}{A:Option Addr}{k:Nat}{R:List (List Value)}(h:RowsAt w A k R)(n:Nat):RowsAt w A k (R.take n):=fun i r hr=>by
 rw[List.getElem?_take]at hr;split at hr
 ·exact h i r hr
 ·cases hr
theorem RowsAt.at_{w:World}{A:Option Addr}{k:Nat}{R:List (List Value)}(h:RowsAt w A k R)(hn:0<R.length):
  ∃b o,A=some ⟨b,o,none⟩∧b<w.heap.size∧∀i r,R[i]?=some r→r.length=k∧∀j v,r[j]?=some v→w.cell? ⟨b,o+i*k+j,none⟩=some v:=by
 obtain⟨_,b,o,e,hlt,_⟩:=h 0 R[0] (List.getElem?_eq_getElem hn);refine⟨b,o,e,hlt,fun i r hr=>?_⟩;obtain⟨h1,b',o',e',_,hc⟩:=h i r hr;rw[e]at e';injection e' with e';injection e' with e1 e2;subst e1 e2;exact⟨h1,hc⟩
theorem addr_add(b o j:Nat):(⟨b,o,none⟩:Addr).add j=⟨b,o+j,none⟩:=by unfold Addr.add;split <;> simp_all
section
variable{P:Program}{o:Oper}{a:Act}{w:World}{Q:Exit→Act→World→Prop}{K:Act→World→Prop}
theorem run_load_row(ty:TypeId)(p:Addr)(r:List Value)(d:TypeDesc)(h:∀j v,r[j]?=some v→w.cell? (p.add j)=some v)
  (hu:P.underlying ty=some d)(hd:(match d with| .struct _| .array _ _=>true|_=>false)=true)(hi:(P.info? ty).map (·.size)=some r.length):
  (loadVar ty p).run P w=.ok (.agg r.toArray) w:=by
 have hl:(loadCells p r.length).run P w=.ok r.toArray w:=run_loadCells_list (P:=P) w p r h
 cases hq:P.info? ty with
 |none=>simp[hq]at hi
 |some i=>
  have hs:i.size=r.length:=by simpa [hq]using hi
  have hagg:(isAgg ty).run P w=.ok true w:=by
   unfold isAgg;rw[Sem.run_bind,run_underlying hu w]
   cases d <;> simp_all
  simp[loadVar,Sem.run_bind,hagg,sizeOf,typeInfo,hq,hs,hl]
theorem op_load_cells(ty:TypeId)(x:Operand)(ho:o.op=.load ty x)(b off:Nat)(hx:a.eval x=.pointer (some ⟨b,off,none⟩))(r:List Value)(d:TypeDesc)(hc:∀j v,r[j]?=some v→w.cell? ⟨b,off+j,none⟩=some v)
  (hu:P.underlying ty=some d)(hd:(match d with| .struct _| .array _ _=>true|_=>false)=true)(hi:(P.info? ty).map (·.size)=some r.length)
  (h:K (a.put o.dst (.agg r.toArray)) w):o.wp P a w K Q:=by
 have:=run_load_row (P:=P) (w:=w) ty ⟨b,off,none⟩ r d (fun j v hj=>by rw[addr_add];exact hc j v hj) hu hd hi;unfold Oper.wp execOp;simp only[ho,hx,Instr.loadAt,Instr.sureAddr,Sem.run_bind,Sem.run_pure,Result.andThen_ok,this];exact h
theorem op_store_part(ty:TypeId)(x y:Operand)(ho:o.op=.store ty x y)(g off:Nat)(hx:a.eval x=.pointer (some ⟨g,off,none⟩))(cs:Array Value)(hy:a.eval y=.agg cs)
  (t:TypeId)(cur:Array Value)(hg:Blk w g t cur)(hoff:off+cs.size≤cur.size)(hi:(P.info? ty).map (·.size)=some cs.size)(h1:∀v∈cs.toList,v.oneCell'=true)
  (h:K (a.put o.dst undef) (w.setRow g (putAt cur off cs))):o.wp P a w K Q:=by
 unfold Oper.wp execOp;simp only[ho,hx,hy,Instr.storeAt,Instr.sureAddr,Sem.run_bind,Sem.run_pure,Result.andThen_ok,run_store_part (P:=P) ty g off t cur cs hg hoff hi h1];exact h
end
def OwnR(e:TypeId)(k base:Nat)(w:World)(A:Option Addr)(c:Nat)(R:List (List Value)):Prop:=
 (∀r∈R,r.length=k)∧w.ownsRow base e k (.slice A R.length c) R.length R.flatten
theorem flatten_len{α:Type}{k:Nat}:∀{R:List (List α)},(∀r∈R,r.length=k)→R.flatten.length=R.length*k
 | [],_=>by simp
 |r::R,h=>by
  rw[List.flatten_cons,List.length_append,h r (List.mem_cons_self ..),flatten_len (fun x hx=>h x (List.mem_cons_of_mem _ hx)),List.length_cons,Nat.succ_mul];omega
theorem flatten_get{α:Type}{k:Nat}:∀{R:List (List α)},(∀r∈R,r.length=k)→∀(i:Nat) (r:List α),R[i]?=some r→∀j,j<k→R.flatten[i*k+j]?=r[j]?
 | [],_,i,r,hr,j,hj=>by simp at hr
 |x::R,h,0,r,hr,j,hj=>by
  simp at hr;subst hr;rw[List.flatten_cons,Nat.zero_mul,Nat.zero_add,List.getElem?_append_left (by rw[h x (List.mem_cons_self ..)];exact hj)]
 |x::R,h,i+1,r,hr,j,hj=>by
  have hx:=h x (List.mem_cons_self ..);rw[List.flatten_cons,List.getElem?_append_right (by rw[hx,Nat.succ_mul];omega),hx];have:=flatten_get (fun y hy=>h y (List.mem_cons_of_mem _ hy)) i r (by simpa using hr) j hj;rw[← this]
  congr 1
  rw[Nat.succ_mul];omega
theorem OwnR.nil(e:TypeId)(k base:Nat)(w:World):OwnR e k base w none 0 []:=⟨fun r hr=>(by cases hr),World.ownsRow_nil w base _ k⟩
theorem OwnR.form{e:TypeId}{k base:Nat}{w:World}{A:Option Addr}{c:Nat}{R:List (List Value)}(h:OwnR e k base w A c R):(A=none∧c=0∧R=[])∨∃g cur,A=some ⟨g,0,none⟩∧base≤g∧g<w.heap.size∧Blk w g e cur∧R.length≤c∧cur.size=c*k∧cur.toList.take (R.length*k)=R.flatten:=by
 rcases h.2.2 with⟨h1,h2⟩|⟨g,cap,cur,h1,h2,h3,h4,h5,h6,h7⟩
 ·left
  injection h1 with a b c;exact⟨a,c,List.eq_nil_of_length_eq_zero h2⟩
 ·right
  injection h1 with a b c;subst c;exact⟨g,cur,a,h2,(Array.getElem?_eq_some_iff.1 h3).1,h3,h4,h6,h7⟩
theorem OwnR.cap{e:TypeId}{k base:Nat}{w:World}{A:Option Addr}{c:Nat}{R:List (List Value)}(h:OwnR e k base w A c R):R.length≤c:=by
 rcases h.form with⟨rfl,rfl,rfl⟩|⟨g,cur,rfl,_,_,_,h1,_⟩
 ·simp
 ·exact h1
theorem OwnR.after{e:TypeId}{k base:Nat}{w w':World}{A:Option Addr}{c:Nat}{R:List (List Value)}(h:OwnR e k base w A c R)(hb:Below w.heap.size w w'):OwnR e k base w' A c R:=by
 refine⟨h.1,h.2.1,?_⟩;rcases h.2.2 with h1|⟨g,cap,cur,h1,h2,h3,h4⟩
 ·exact .inl h1
 ·exact .inr ⟨g,cap,cur,h1,h2,(hb.block g (Array.getElem?_eq_some_iff.1 h3).1).trans h3,h4⟩
theorem OwnR.less{e:TypeId}{k base base':Nat}{w:World}{A:Option Addr}{c:Nat}{R:List (List Value)}(h:OwnR e k base w A c R)(hb:base'≤base):OwnR e k base' w A c R:=by
 refine⟨h.1,h.2.1,?_⟩;rcases h.2.2 with h1|⟨g,cap,cur,h1,h2,h3⟩
 ·exact .inl h1
 ·exact .inr ⟨g,cap,cur,h1,Nat.le_trans hb h2,h3⟩
theorem OwnR.rows{e:TypeId}{k base:Nat}{w:World}{A:Option Addr}{c:Nat}{R:List (List Value)}(h:OwnR e k base w A c R):RowsAt w A k R:=fun i r hr=>by
 have hi:i<R.length:=(List.getElem?_eq_some_iff.1 hr).1;have hm:r∈R:=List.mem_of_getElem? hr;refine⟨h.1 r hm,?_⟩;rcases h.form with⟨_,_,h0⟩|⟨g,cur,h1,h2,h3,h4,h5,h6,h7⟩
 ·rw[h0]at hi;simp at hi
 ·refine⟨g,0,h1,h3,fun j v hj=>?_⟩;have hjk:j<k:=by rw[← h.1 r hm];exact(List.getElem?_eq_some_iff.1 hj).1
  have hlt:i*k+j<R.length*k:=by
   have:(i+1)*k≤R.length*k:=Nat.mul_le_mul_right k hi;rw[Nat.succ_mul]at this;omega
  rw[h4.cell,Nat.zero_add,← Array.getElem?_toList];have e1:(cur.toList.take (R.length*k))[i*k+j]?=cur.toList[i*k+j]?:=by rw[List.getElem?_take,if_pos hlt]
  rw[← e1,h7,flatten_get h.1 i r hr j hjk,hj]
theorem op_app_row{o:Oper}{a:Act}{w:World}{Q:Exit→Act→World→Prop}{K:Act→World→Prop}{t e:TypeId}(s x:Operand)(ho:o.op=.call {callee:=.builtin .append,args:=#[s,x],argTypes:=#[t,t]})
  {z:Value}{k bytes:Nat}(ht:Tryz.prog.underlying t=some (.slice e))(hi:(Tryz.prog.info? e).map (fun i=>(i.zero,i.size,i.bytes))=some (some z,k,bytes))(hzs:z.cells.size=k)(hk:0<k)
  {base g c c2:Nat}{A:Option Addr}{R:List (List Value)}{r:List Value}{t2:TypeId}(hs:a.eval s=.slice A R.length c)(hx:a.eval x=.slice (some ⟨g,0,none⟩) 1 c2)(hown:OwnR e k base w A c R)(hg:Blk w g t2 r.toArray)(hr:r.length=k)(h1:∀u∈r,u.oneCell'=true)(hlen:R.length≤1000)(hby:bytes≤10000)(hbase:base≤w.heap.size)
  (h:∀(A':Option Addr) (c':Nat) (w':World),OwnR e k base w' A' c' (R++[r])→Below base w w'→w.grownBy w' (blkOf A)→(blkOf A'=blkOf A∨blkOf A'=some w.heap.size)→K (a.put o.dst (.slice A' (R++[r]).length c')) w'):o.wp Tryz.prog a w K Q:=by
 obtain⟨i0,hi0,hz0,hz1,hz2⟩:=info_parts hi;have hbb:(R.length+1)*bytes≤140737488355328:=by
  have:(R.length+1)*bytes≤1001*10000:=Nat.mul_le_mul (by omega) hby
  omega
 obtain⟨v',w',hrun,h2,h3,_,h5⟩:=run_append_own_at (P:=Tryz.prog) w base t o.type e i0 z k bytes ht hi0 hz0 hz1 hz2 hzs hk _ _ _ hown.2 ⟨g,0,none⟩ 1 c2 r (by rw[hr,Nat.one_mul])
  (by
   intro j u hu;rw[addr_add,Nat.zero_add,hg.cell,List.getElem?_toArray];exact hu) h1 (by unfold maxLen;omega) hbb hbase
 rw[ownBlock_slice]at h3 h5;have hv:∃A' c',v'=.slice A' (R++[r]).length c':=by
  rcases h2.2 with⟨h,h0⟩|⟨g,cap,cur,h,_⟩
  ·exact⟨none,0,by rw[h,List.length_append,List.length_singleton,h0]⟩
  ·exact⟨_,cap,by rw[h,List.length_append,List.length_singleton]⟩
 obtain⟨A',c',rfl⟩:=hv;have hB:Below base w w':=⟨h3.os,h3.tape,h3.output,h3.size,fun k' hk'=>h3.block k' (Nat.lt_of_lt_of_le hk' hbase) (by
  rcases hown.form with⟨rfl,_,_⟩|⟨g',cur,rfl,hge,_⟩
  ·simp[blkOf]
  ·simp[blkOf];omega)⟩
 unfold Oper.wp execOp;simp only[ho,resolve,invoke,builtin,Sem.run_bind,Sem.run_pure,Result.andThen_ok,List.map_toArray,List.map_cons,List.map_nil,hs,hx,hrun];rw[ownBlock_slice]at h5;refine h A' c' w' ⟨fun x hx=>?_,?_⟩ hB h3 h5
 ·rcases List.mem_append.1 hx with h|h
  ·exact hown.1 x h
  ·rw[List.mem_singleton.1 h];exact hr
 ·rw[List.length_append,List.length_singleton,List.flatten_append,List.flatten_singleton]at *;exact h2
theorem op_app_copy{o:Oper}{a:Act}{w:World}{Q:Exit→Act→World→Prop}{K:Act→World→Prop}{t e:TypeId}(s x:Operand)(ho:o.op=.call {callee:=.builtin .append,args:=#[s,x],argTypes:=#[t,t]})
  {z:Value}{k bytes:Nat}(ht:Tryz.prog.underlying t=some (.slice e))(hi:(Tryz.prog.info? e).map (fun i=>(i.zero,i.size,i.bytes))=some (some z,k,bytes))(hzs:z.cells.size=k)(hk:0<k)
  {c2:Nat}{A2:Option Addr}{R:List (List Value)}(hs:a.eval s=.slice none 0 0)(hx:a.eval x=.slice A2 R.length c2)(hR:RowsAt w A2 k R)(hn:0<R.length)(h1:∀r∈R,∀u∈r,u.oneCell'=true)(hlen:R.length≤1000)(hby:bytes≤10000)
  (h:∀(A':Option Addr) (c':Nat) (w':World),OwnR e k w.heap.size w' A' c' R→Below w.heap.size w w'→K (a.put o.dst (.slice A' R.length c')) w'):o.wp Tryz.prog a w K Q:=by
 obtain⟨i0,hi0,hz0,hz1,hz2⟩:=info_parts hi;obtain⟨b,off,rfl,hb,hc⟩:=hR.at_ hn;have hk':∀r∈R,r.length=k:=fun r hr=>by
  obtain⟨i,hi⟩:=List.getElem?_of_mem hr;exact(hc i r hi).1
 have hbb:(0+R.length)*bytes≤140737488355328:=by
  have:(0+R.length)*bytes≤1000*10000:=Nat.mul_le_mul (by omega) hby
  omega
 obtain⟨v',w',hrun,h2,h3,_,h5⟩:=run_append_own_at (P:=Tryz.prog) w w.heap.size t o.type e i0 z k bytes ht hi0 hz0 hz1 hz2 hzs hk _ _ _ (World.ownsRow_nil w w.heap.size e k) ⟨b,off,none⟩ R.length c2 R.flatten (flatten_len hk')
  (by
   intro j u hu;have hj:j<R.length*k:=by rw[← flatten_len hk'];exact(List.getElem?_eq_some_iff.1 hu).1
   have hjk:j=j / k*k+j % k:=by rw[Nat.mul_comm];exact(Nat.div_add_mod j k).symm
   have hq:j / k<R.length:=Nat.div_lt_of_lt_mul (by rw[Nat.mul_comm];exact hj);have hr:=List.getElem?_eq_getElem hq;have hmod:j % k<k:=Nat.mod_lt _ hk;rw[hjk,flatten_get hk' (j / k) _ hr (j % k) hmod]at hu;have:=(hc (j / k) _ hr).2 (j % k) u hu;rw[addr_add,hjk];rw[← Nat.add_assoc];exact this) (fun u hu=>by
   obtain⟨r,hr,hur⟩:=List.mem_flatten.1 hu;exact h1 r hr u hur) (by unfold maxLen;omega) hbb (Nat.le_refl _)
 have hv:∃A' c',v'=.slice A' R.length c':=by
  rcases h2.2 with⟨h,h0⟩|⟨g,cap,cur,h,_⟩
  ·exact absurd h0 (by omega)
  ·exact⟨_,cap,by rw[h,Nat.zero_add]⟩
 obtain⟨A',c',rfl⟩:=hv;have hB:Below w.heap.size w w':=⟨h3.os,h3.tape,h3.output,h3.size,fun k' hk'=>h3.block k' hk' (by simp[Value.ownBlock])⟩;unfold Oper.wp execOp;simp only[ho,resolve,invoke,builtin,Sem.run_bind,Sem.run_pure,Result.andThen_ok,List.map_toArray,List.map_cons,List.map_nil,hs,hx,hrun];refine h A' c' w' ⟨hk',?_⟩ hB;rw[Nat.zero_add,List.nil_append]at h2;exact h2
structure Seat where
 a:ByteArray
 k:ByteArray
 p:Int
 q:Int
def Seat.cells(s:Seat):List Value:=[.string s.a,.string s.k,.int .i64 s.p,.int .i64 s.q]
def seatRows(S:List Seat):List (List Value):=S.map Seat.cells
structure Seat.good(s:Seat):Prop where
 a:s.a.size=20
 k:s.k.size≤2147483647
 p:1≤s.p∧s.p≤1000000
 q:s.q=0
def Good(S:List Seat):Prop:=∀s∈S,s.good
theorem Good.get{S:List Seat}(h:Good S){i:Nat}{s:Seat}(hi:S[i]?=some s):s.good:=h s (List.mem_of_getElem? hi)
theorem seatRows_length(S:List Seat):(seatRows S).length=S.length:=by simp[seatRows]
theorem seatRows_get{S:List Seat}{i:Nat}{s:Seat}(h:S[i]?=some s):(seatRows S)[i]?=some s.cells:=by simp[seatRows,h]
theorem seat_one(s:Seat):∀u∈s.cells,u.oneCell'=true:=by
 intro u hu;simp only[Seat.cells,List.mem_cons,List.not_mem_nil,or_false]at hu;rcases hu with rfl|rfl|rfl|rfl <;> rfl
def SeatsAt(w:World)(A:Option Addr)(S:List Seat):Prop:=RowsAt w A 4 (seatRows S)
theorem SeatsAt.after{w w':World}{A:Option Addr}{S:List Seat}(h:SeatsAt w A S)(hb:Below w.heap.size w w'):SeatsAt w' A S:=RowsAt.after h hb
theorem SeatsAt.at_{w:World}{A:Option Addr}{S:List Seat}(h:SeatsAt w A S)(hn:0<S.length):
  ∃b o,A=some ⟨b,o,none⟩∧b<w.heap.size∧∀i s,S[i]?=some s→∀j v,s.cells[j]?=some v→w.cell? ⟨b,o+i*4+j,none⟩=some v:=by
 obtain⟨b,o,h1,h2,h3⟩:=RowsAt.at_ h (by rw[seatRows_length];exact hn);exact⟨b,o,h1,h2,fun i s hs=>(h3 i _ (seatRows_get hs)).2⟩
def total(S:List Seat):Int:=(S.map Seat.p).sum
def Seat.leaf(s:Seat):List Int:=withinL 1 (withinL 1 (bytesOf s.k))++numL 2 s.p.toNat
def sLeaves(S:List Seat):List (List Int):=S.map Seat.leaf
theorem leaf_len{s:Seat}(h:s.good):s.leaf.length≤3000000000:=by
 unfold Seat.leaf;have h1:=h.k;have h2:=h.p;have e1:=withinL_len 1 (bytesOf s.k) (by rw[bytesOf_length];omega);rw[bytesOf_length]at e1;have e2:=withinL_len 1 (withinL 1 (bytesOf s.k)) (by omega);have e3:=numL_len 2 s.p.toNat (by omega);rw[List.length_append];omega
theorem leaf_bytes(s:Seat):Bytes s.leaf:=(withinL_bytes 1 _ (by decide) (withinL_bytes 1 _ (by decide) (bytesOf_bytes _))).append (numL_bytes 2 _ (by decide))
theorem sLeaves_small{S:List Seat}(h:Good S):Small (sLeaves S):=fun x hx=>by
 obtain⟨s,hs,rfl⟩:=List.mem_map.1 hx;have:=leaf_len (h s hs);exact⟨leaf_bytes s,by omega⟩
theorem sLeaves_succ{S:List Seat}{i:Nat}{s:Seat}(h:S[i]?=some s):sLeaves (S.take (i+1))=sLeaves (S.take i)++[s.leaf]:=by
 unfold sLeaves;rw[List.take_add_one,h];simp
def FarS(g:Option Nat)(vs:List Value):Prop:=∀v∈vs,∀A n c,v=.slice A n c→∀k,blkOf A=some k→some k≠g
theorem BsAt.gb{B:Nat}{l:List Int}{v:Value}{w w':World}{g:Option Nat}(h:BsAt B l v w)(hg:w.grownBy w' g)(hf:∀A n c,v=.slice A n c→∀k,blkOf A=some k→some k≠g):BsAt B l v w':=by
 obtain⟨l',A,c,h1,rfl,h3,h4,h5,h6⟩:=h;refine⟨l',A,c,h1,rfl,h3,h4,h5.grown hg (fun hx e=>?_),fun k hk=>⟨(h6 k hk).1,Nat.lt_of_lt_of_le (h6 k hk).2 hg.size⟩⟩;obtain⟨k,hk,_⟩:=h5.blk hx;exact hf A _ _ rfl k hk (by rw[← e,hk])
theorem LsV.gb{w w':World}{g:Option Nat}(hg:w.grownBy w' g):∀{vs:List Value} {ls:List (List Int)},LsV w vs ls→FarS g vs→LsV w' vs ls
 | [],[],_,_=>trivial
 |v::_,_::_,h,hf=>⟨h.1.gb hg (hf v (List.mem_cons_self ..)),LsV.gb hg h.2 fun x hx=>hf x (List.mem_cons_of_mem _ hx)⟩
 | [],_::_,h,_=>h.elim
 |_::_,[],h,_=>h.elim
theorem LsV.lt{w:World}:∀{vs:List Value} {ls:List (List Int)},LsV w vs ls→FarS (some w.heap.size) vs
 | [],[],_=>fun v hv=>by cases hv
 |v::vs,_::_,h=>fun x hx A n c e k hk=>by
  rcases List.mem_cons.1 hx with rfl|hx
  ·obtain⟨l',A',c',_,e',_,_,_,h6⟩:=h.1;rw[e]at e';injection e' with e1 _ _;subst e1;have:=(h6 k hk).2;intro e2;injection e2 with e2;omega
  ·exact LsV.lt h.2 x hx A n c e k hk
 | [],_::_,h=>h.elim
 |_::_,[],h=>h.elim
structure Leaves(base:Nat)(w:World)(A:Option Addr)(c:Nat)(vs:List Value)(ls:List (List Int)):Prop where
 own:OwnS base w A c vs
 ls:LsV w vs ls
 far:FarS (blkOf A) vs
theorem Leaves.nil(base:Nat)(w:World):Leaves base w none 0 [] []:=⟨OwnS.nil _ _,trivial,fun v hv=>by cases hv⟩
theorem Leaves.after{base:Nat}{w w':World}{A:Option Addr}{c:Nat}{vs:List Value}{ls:List (List Int)}(h:Leaves base w A c vs ls)(hb:Below w.heap.size w w'):Leaves base w' A c vs ls:=⟨h.own.after hb,h.ls.after hb,h.far⟩
theorem Leaves.length{base:Nat}{w:World}{A:Option Addr}{c:Nat}{vs:List Value}{ls:List (List Int)}(h:Leaves base w A c vs ls):vs.length=ls.length:=h.ls.length
theorem Leaves.ls0{base:Nat}{w:World}{A:Option Addr}{c:Nat}{vs:List Value}{ls:List (List Int)}(h:Leaves base w A c vs ls):Ls0 w A ls:=h.own.ls0 h.ls
theorem OwnS.blk_lt{base:Nat}{w:World}{A:Option Addr}{c:Nat}{vs:List Value}(h:OwnS base w A c vs):∀k,blkOf A=some k→base≤k∧k<w.heap.size:=fun k hk=>by
 rcases h.form with⟨rfl,_,_⟩|⟨g,cur,rfl,h1,h2,_⟩
 ·cases hk
 ·injection hk with hk;have hk:g=k:=hk;omega
theorem OwnS.ne_blk{base g:Nat}{w:World}{A:Option Addr}{c:Nat}{vs:List Value}{t:TypeId}{cs:Array Value}(h:OwnS base w A c vs)(hg:Blk w g t cs)(ht:t≠32):some g≠blkOf A:=by
 rcases h.form with⟨rfl,_,_⟩|⟨g',cur,rfl,_,_,hb,_⟩
 ·simp[blkOf]
 ·intro e;injection e with e;have e:g=g':=e;subst e;unfold Blk at hg hb;rw[hg]at hb;injection hb with hb;injection hb with _ e2 _;exact ht e2
theorem Leaves.new{base:Nat}{w:World}{vs:List Value}{ls:List (List Int)}(hv:LsV w vs ls)(hb:base≤w.heap.size)(hc:vs.length≤1000):
  Leaves base (w.alloc (.cells vs.toArray 32)) (some ⟨w.heap.size,0,none⟩) vs.length vs ls:=
 ⟨OwnS.new (Blk.new w _ _) hb hc,hv.after (bz_alloc (bz_refl w) _),hv.lt⟩
theorem OwnS.cap{base:Nat}{w:World}{A:Option Addr}{c:Nat}{vs:List Value}(h:OwnS base w A c vs):vs.length≤c:=by
 rcases h.form with⟨_,_,rfl⟩|⟨g,cur,_,_,_,_,h1,_⟩
 ·simp
 ·exact h1
theorem run_app_bsl(w:World)(ty:TypeId){base g c c2:Nat}{A:Option Addr}{vs us:List Value}{t:TypeId}(hown:OwnS base w A c vs)(hg:Blk w g t us.toArray)(h1:∀u∈us,u.oneCell'=true)(hlen:vs.length+us.length≤1000)(hbase:base≤w.heap.size):
  ∃A' c' w',(Builtin.append_ #[104,104] ty #[.slice A vs.length c,.slice (some ⟨g,0,none⟩) us.length c2]).run Tryz.prog w=.ok (.slice A' (vs++us).length c') w'∧OwnS base w' A' c' (vs++us)∧Below base w w'∧w.grownBy w' (blkOf A)∧(blkOf A'=blkOf A∨blkOf A'=some w.heap.size):=by
 obtain⟨i0,hi0,hz0,hz1,hz2⟩:=info_parts bsl_info;obtain⟨v',w',hrun,h2,h3,_,h5⟩:=run_append_own_at (P:=Tryz.prog) w base 104 ty 32 i0 (.slice none 0 0) 1 24 Tryz.underlying104 hi0 hz0 hz1 hz2 rfl (by decide) _ _ _ hown ⟨g,0,none⟩ us.length c2 us (by rw[Nat.mul_one])
  (by
   intro j u hu;have hadd:(⟨g,0,none⟩:Addr).add j=⟨g,j,none⟩:=by unfold Addr.add;split <;> simp_all
   rw[hadd,hg.cell,List.getElem?_toArray];exact hu) h1 (by unfold maxLen;omega) (by omega) hbase
 rw[ownBlock_slice]at h3 h5;have hv:∃A' c',v'=.slice A' (vs++us).length c':=by
  rcases h2.2 with⟨h,h0⟩|⟨g,cap,cur,h,_⟩
  ·exact⟨none,0,by rw[h,List.length_append,h0]⟩
  ·exact⟨_,cap,by rw[h,List.length_append]⟩
 obtain⟨A',c',rfl⟩:=hv;rw[ownBlock_slice]at h5;have hB:Below base w w':=⟨h3.os,h3.tape,h3.output,h3.size,fun k hk=>h3.block k (Nat.lt_of_lt_of_le hk hbase) (by
  rcases hown.form with⟨rfl,_,_⟩|⟨g',cur,rfl,hge,_⟩
  ·simp[blkOf]
  ·simp[blkOf];omega)⟩
 exact⟨A',c',w',hrun,by unfold OwnS;rw[List.length_append];simpa using h2,hB,h3,h5⟩
theorem op_app_leaf{o:Oper}{a:Act}{w:World}{Q:Exit→Act→World→Prop}{K:Act→World→Prop}(s x:Operand)(ho:o.op=.call {callee:=.builtin .append,args:=#[s,x],argTypes:=#[104,104]})
  {base g c c2 B:Nat}{A:Option Addr}{vs:List Value}{ls:List (List Int)}{v:Value}{l:List Int}{t:TypeId}(hs:a.eval s=.slice A vs.length c)(hx:a.eval x=.slice (some ⟨g,0,none⟩) 1 c2)(hL:Leaves base w A c vs ls)(hg:Blk w g t #[v])(hv:BsAt B l v w)(hAB:∀k,blkOf A=some k→k<B)(hlen:vs.length≤100)(hbase:base≤w.heap.size)
  (h:∀(vs':List Value) (A':Option Addr) (c':Nat) (w':World),Leaves base w' A' c' vs' (ls++[l])→Below base w w'→w.grownBy w' (blkOf A)→K (a.put o.dst (.slice A' vs'.length c')) w'):o.wp Tryz.prog a w K Q:=by
 have hvf:∀A' n c,v=.slice A' n c→∀k,blkOf A'=some k→some k≠blkOf A:=by
  intro A' n c e k hk e2;obtain⟨l',A2,c2,_,e',_,_,_,h6⟩:=hv;rw[e]at e';injection e' with e1 _ _;subst e1;have:=(h6 k hk).1;have:=hAB k e2.symm;omega
 obtain⟨A',c',w',hrun,ho',hb',hg',he⟩:=run_app_bsl w o.type (c2:=c2) (us:=[v]) hL.own hg (by intro u hu;rw[List.mem_singleton.1 hu];exact hv.one) (by simp;omega) hbase;have hls:LsV w' (vs++[v]) (ls++[l]):=(hL.ls.gb hg' hL.far).append ⟨(hv.gb hg' hvf).less (Nat.zero_le _),trivial⟩;have hlt1:FarS (some w.heap.size) (vs++[v]):=(hL.ls.append (us:=[v]) (ks:=[l]) ⟨hv.less (Nat.zero_le _),trivial⟩).lt;have hfar:FarS (blkOf A') (vs++[v]):=by
  rcases he with e|e
  ·rw[e];intro x hx;rcases List.mem_append.1 hx with hx|hx
   ·exact hL.far x hx
   ·rw[List.mem_singleton.1 hx];exact hvf
  ·rw[e];exact hlt1
 have hx':a.eval x=.slice (some ⟨g,0,none⟩) [v].length c2:=hx;unfold Oper.wp execOp;simp only[ho,resolve,invoke,builtin,Sem.run_bind,Sem.run_pure,Result.andThen_ok,List.map_toArray,List.map_cons,List.map_nil,hs,hx',hrun];exact h _ A' c' w' ⟨ho',hls,hfar⟩ hb' hg'
def OneAt(B:Nat)(l:List Int)(v:Value)(w:World):Prop:=∃(g c2:Nat) (u:Value),v=.slice (some ⟨g,0,none⟩) 1 c2∧Blk w g 32 #[u]∧BsAt B l u w
theorem OneAt.after{B:Nat}{l:List Int}{v:Value}{w w':World}(h:OneAt B l v w)(hb:Below w.heap.size w w'):OneAt B l v w':=by
 obtain⟨g,c2,u,h1,h2,h3⟩:=h;exact⟨g,c2,u,h1,h2.after hb,h3.after hb⟩
def FItem.one(t B:Nat)(l:List Int):FItem:={reads:=[t],fact:=fun vs w=>∃v,vs=[v]∧OneAt B l v w,keeps:=fun _ _ _ hb ⟨v,h1,h2⟩=>⟨v,h1,h2.after hb⟩}
theorem FItem.one_holds{t B:Nat}{l:List Int}{a:Act}{w:World}:(FItem.one t B l).holds a w↔OneAt B l (a.tmps.getD t undef) w:=by
 constructor
 ·rintro⟨v,h1,h2⟩;injection h1 with h1;have h1:a.tmps.getD t undef=v:=h1
  rwa [h1]
 ·exact fun h=>⟨_,rfl,h⟩
theorem one_put{a:Act}{d B:Nat}{l:List Int}{v:Value}{w:World}{sz:Nat}(hs:SzIs a sz)(hd:d<sz)(h:OneAt B l v w):(FItem.one d B l).holds (a.put (some d) v) w:=FItem.one_holds.2 (by rw[put_self a d v (by rw[hs.out];exact hd)];exact h)
theorem OneAt.new{B:Nat}{l:List Int}{u:Value}{w:World}(h:BsAt B l u w):OneAt B l (.slice (some ⟨w.heap.size,0,none⟩) 1 1) (w.alloc (.cells #[u] 32)):=
 ⟨_,_,u,rfl,Blk.new w _ _,h.after (bz_alloc (bz_refl w) _)⟩
theorem Hd.sums_length(H:Hd)(k:Nat):(H.leaves5++H.sums k).length=5+k:=by simp[Hd.leaves5,Hd.sums];omega
theorem Hd.leaves_length(H:Hd):H.leaves.length=14:=by simp[Hd.leaves,Hd.leaves5,Hd.sums]
theorem c_HeaderSum(H:Hd)(w:World)(hn:H.num)(hk:H.ok w)(hne:(((H.hh 2).l.length:Int) == 0)=false):
  Calls Tryz.prog 27 #[.agg H.cells] w fun e w'=>∃v,e=.returned v∧BsAt w.heap.size (rootN 20 H.leaves) v w'∧Below w.heap.size w w':=by
 suffices h:∀w0,(H.ok w0)→Below w0.heap.size w0 w→Calls Tryz.prog 27 #[.agg H.cells] w fun e w'=>∃v,e=.returned v∧BsAt w0.heap.size (rootN 20 H.leaves) v w'∧Below w0.heap.size w0 w' from h w hk (bz_refl w)
 clear hk;intro w0 hk hB;refine enter_abs Tryz.func27 rfl 52 rfl (by simp) ?_;intro a hs hd hargs;have s0:=hargs 0 _ rfl;clear hargs;refine wp_seq ?_;refine wp_region_list ?_;show wpList _ _ _ [_,_] _ _
 refine tail_op rfl (fun K hK=>?_);have q0:=gd s0;go_simp;clear q0;refine hK _ _ ?_;clear hK K;refine act_put (d:=1) _ hs hd (by decide) [(0,_)] ⟨s0,trivial⟩ rfl ?_;clear hs hd s0;intro a hs hd zl;obtain⟨g,hE⟩:∃B,Is w.heap.size B:=is_self _;generalize hw1:World.alloc w _=w1;have hg:Blk w1 g 71 H.cells:=by rw[← hw1,← hE.out];exact Blk.new w _ _
 have hB1:Below w.heap.size w w1:=by rw[← hw1];exact bz_alloc (bz_refl w) _
 replace hB:=bz_then hB hB1;obtain⟨s1,s0,-⟩:=zl;rw[hE.out]at s1;clear hw1 hB1 hE;refine tail_op rfl (fun K hK=>?_);go_simp;refine hK _ _ ?_;clear hK K;refine act_put (d:=2) _ hs hd (by decide) [(0,_),(1,_)] ⟨s0,s1,trivial⟩ rfl ?_;clear hs hd s0 s1;intro a hs hd zl;refine wp_seq ?_;refine wp_seq ?_;have HNE:=Is.hid hne;clear hne;have c11:w1.cell? ⟨g,11,none⟩=some (.slice (H.hh 2).A (H.hh 2).l.length (H.hh 2).c):=by rw[hg.cell];rfl
 refine fl2 [.eq 6 _,.eq 7 _,.eq 8 _,.eq 9 _] 4 hs hd zl
  ⟨sP bq,
   sP bq,
   sP bq,
   sP bq,
   trivial⟩ ?_
 clear hs hd zl;intro a w hb hs hd zl hh;replace zl:=lH hh 3 zl;clear hh;replace hg:=hg.after hb;replace c11:=cell_up hb c11;replace hB:=bz_then hB hb;clear hb;refine wn 1 ?_;clear hs hd zl;intro a hs hd zl;clear c11;have hne:=HNE.out;clear HNE;have s10:=vL zl 0;refine wp_cond_false (s10.trans (congrArg Value.bool hne)) ?_;refine wp_skip ?_;clear s10 hne;refine wp_seq ?_;have c0:w.cell? ⟨g,0,none⟩=some (.int .i64 H.vb):=by rw[hg.cell];rfl
 have c1:w.cell? ⟨g,1,none⟩=some (.int .i64 H.va):=by rw[hg.cell];rfl
 have c2:w.cell? ⟨g,2,none⟩=some (.string H.ch):=by rw[hg.cell];rfl
 have c3:w.cell? ⟨g,3,none⟩=some (.int .i64 H.ht):=by rw[hg.cell];rfl
 have n1:=hn.vb;have n2:=hn.va;have n3:=hn.ht;have n4:=hn.sec;have n5:=hn.ns;have n6:=hn.bt;have n7:=hn.ch;have hk':=hk.after hB;have kc:=fun(w:World)=>Lib.run_convert_string_bytes (P:=Tryz.prog) w 9 32 5 (H.ch) Tryz.underlying9 Tryz.underlying32 Tryz.underlying5
 obtain⟨-,-,-,-,s1,-⟩:=zl;refine fl2 (F:=[(1,_)]) [.eq 11 _,.eq 12 _,FItem.bs 13 0 (numL 1 H.vb.toNat),.eq 14 _,.eq 15 _,FItem.bs 16 0 (numL 2 H.va.toNat),FItem.ls 17 ([numL 1 H.vb.toNat,numL 2 H.va.toNat]),FItem.bs 18 0 (numL 1 H.vb.toNat++numL 2 H.va.toNat),.eq 19 _,.eq 20 _,FItem.bs 21 0 (bytesOf H.ch),FItem.bs 22 0 (someL 1 (bytesOf H.ch)),.eq 23 _,.eq 24 _,FItem.bs 25 0 (numL 1 H.ht.toNat),.eq 26 _,.eq 27 (.agg #[.int .i64 H.sec,.int .i64 H.ns]),FItem.bs 28 0 (numL 1 H.sec.toNat++numL 2 H.ns.toNat),.eq 29 _,.eq 30 (.agg #[H.bh.v,.int .i64 H.bt,H.bp.v]),FItem.bs 31 0 (bidL H.bh.l H.bt H.bp.l)] 21 hs hd ⟨s1,trivial⟩
  ⟨sP bq,
   sP bq,
   (stp rfl fun a u hb hs hl hd K hK=>by
    have s12:=gD hd 1;have c0:=cell_up hb c0;have c1:=cell_up hb c1;have c2:=cell_up hb c2;have c3:=cell_up hb c3;clear hd;go_simp;refine(c_number 1 H.vb _ (by decide) n1.1 n1.2).mono ?_;intro e w3 h;obtain⟨v,rfl,hv,hb2⟩:=h.at0;exact hK _ _ hb2 (bs_put hs (by decide) hv)),
   sP bq,
   sP bq,
   (stp rfl fun a u hb hs hl hd K hK=>by
    have s15:=gD hd 4;have c0:=cell_up hb c0;have c1:=cell_up hb c1;have c2:=cell_up hb c2;have c3:=cell_up hb c3;clear hd;go_simp;refine(c_number 2 H.va _ (by decide) n2.1 n2.2).mono ?_;intro e w3 h;obtain⟨v,rfl,hv,hb2⟩:=h.at0;exact hK _ _ hb2 (bs_put hs (by decide) hv)),
   (stp rfl fun a u hb hs hl hd K hK=>by
    have i13:=FItem.bs_holds.1 (dep_get0 hd 2 (by kernel_rfl));obtain⟨v13,e13⟩:∃v,Is (a.tmps.getD 13 undef) v:=is_self _;rw[e13.out]at i13;have s13:=gd e13.out;have i16:=FItem.bs_holds.1 (dep_get0 hd 5 (by kernel_rfl));obtain⟨v16,e16⟩:∃v,Is (a.tmps.getD 16 undef) v:=is_self _;rw[e16.out]at i16;have s16:=gd e16.out;have c0:=cell_up hb c0;have c1:=cell_up hb c1;have c2:=cell_up hb c2;have c3:=cell_up hb c3;clear hd;have j13:=i13;obtain⟨x13,A13,k13,-,rfl,-,-,-,-⟩:=j13;have j16:=i16;obtain⟨x16,A16,k16,-,rfl,-,-,-,-⟩:=j16;go_simp;exact hK _ _ (bz_alloc (bz_refl _) _) (ls_put hs (by decide) (LsAt.new (vs:=[.slice A13 x13.length k13,.slice A16 x16.length k16]) ⟨i13,i16,trivial⟩ (by simp)))),
   (stp rfl fun a u hb hs hl hd K hK=>by
    have i17:=FItem.ls_holds.1 (dep_get0 hd 6 (by kernel_rfl));obtain⟨v17,e17⟩:∃v,Is (a.tmps.getD 17 undef) v:=is_self _;rw[e17.out]at i17;have s17:=gd e17.out;have c0:=cell_up hb c0;have c1:=cell_up hb c1;have c2:=cell_up hb c2;have c3:=cell_up hb c3;clear hd;go_simp;refine(i17.joined (by simp) (by rw[flat2,List.length_append];have:=numL_len 1 H.vb.toNat (by omega);have:=numL_len 2 H.va.toNat (by omega);omega)).mono ?_;intro e w3 h;rw[flat2]at h;obtain⟨v,rfl,hv,hb2⟩:=h.at0;exact hK _ _ hb2 (bs_put hs (by decide) hv)),
   sP bq,
   sP bq,
   (stp rfl fun a u hb hs hl hd K hK=>by
    have s20:=gD hd 9;have c0:=cell_up hb c0;have c1:=cell_up hb c1;have c2:=cell_up hb c2;have c3:=cell_up hb c3;clear hd;go_simp;exact hK _ _ (bz_bytes (bz_refl _) _ _) (bs_put hs (by decide) (conv_at _ _ _))),
   (stp rfl fun a u hb hs hl hd K hK=>by
    have i21:=FItem.bs_holds.1 (dep_get0 hd 10 (by kernel_rfl));obtain⟨v21,e21⟩:∃v,Is (a.tmps.getD 21 undef) v:=is_self _;rw[e21.out]at i21;have s21:=gd e21.out;have c0:=cell_up hb c0;have c1:=cell_up hb c1;have c2:=cell_up hb c2;have c3:=cell_up hb c3;clear hd;obtain⟨x21,A21,k21,hx21,rfl,f21,n21,b21,-⟩:=i21;go_simp;refine(c_some 1 A21 k21 x21 _ (by decide) b21 (by rw[hx21.out,bytesOf_length];omega)).mono ?_;intro e w3 h;rw[hx21.out]at h;obtain⟨v,rfl,hv,hb2⟩:=h.at0;exact hK _ _ hb2 (bs_put hs (by decide) hv)),
   sP bq,
   sP bq,
   (stp rfl fun a u hb hs hl hd K hK=>by
    have s24:=gD hd 13;have c0:=cell_up hb c0;have c1:=cell_up hb c1;have c2:=cell_up hb c2;have c3:=cell_up hb c3;clear hd;go_simp;refine(c_number 1 H.ht _ (by decide) n3.1 n3.2).mono ?_;intro e w3 h;obtain⟨v,rfl,hv,hb2⟩:=h.at0;exact hK _ _ hb2 (bs_put hs (by decide) hv)),
   sP bq,
   (stp rfl fun a u hb hs hl hd K hK=>by
    have s26:=gD hd 15;have c0:=cell_up hb c0;have c1:=cell_up hb c1;have c2:=cell_up hb c2;have c3:=cell_up hb c3;clear hd;refine op_load_part 68 (.tmp 26) rfl g 4 (gu s26) _ _ #[.int .i64 H.sec,.int .i64 H.ns] _ (hg.after hb) (show(4+2:Nat)≤18 by decide) rfl rfl (by kernel_rfl) rfl ?_;exact kE hK hs),
   (stp rfl fun a u hb hs hl hd K hK=>by
    have s27:=gD hd 16;have c0:=cell_up hb c0;have c1:=cell_up hb c1;have c2:=cell_up hb c2;have c3:=cell_up hb c3;clear hd;go_simp;refine(c_MomB H.sec H.ns _ (by omega) (by omega)).mono ?_;intro e w3 h;obtain⟨v,rfl,hv,hb2⟩:=h.at0;exact hK _ _ hb2 (bs_put hs (by decide) hv)),
   sP bq,
   (stp rfl fun a u hb hs hl hd K hK=>by
    have s29:=gD hd 18;have c0:=cell_up hb c0;have c1:=cell_up hb c1;have c2:=cell_up hb c2;have c3:=cell_up hb c3;clear hd;refine op_load_part 69 (.tmp 29) rfl g 6 (gu s29) _ _ #[H.bh.v,.int .i64 H.bt,H.bp.v] _ (hg.after hb) (show(6+3:Nat)≤18 by decide) rfl rfl (by kernel_rfl) rfl ?_;exact kE hK hs),
   (stp rfl fun a u hb hs hl hd K hK=>by
    have s30:=gD hd 19;have c0:=cell_up hb c0;have c1:=cell_up hb c1;have c2:=cell_up hb c2;have c3:=cell_up hb c3;clear hd;have hk2:=hk'.after hb;have m1:=hk2.bh.len;have m2:=hk2.bp.len;unfold HSl.v at s30;go_simp;refine(c_BlkB H.bt H.bh.A H.bp.A H.bh.c H.bp.c H.bh.l H.bp.l _ (by omega) hk2.bh.bs (by omega) hk2.bp.bs (by omega)).mono ?_;intro e w3 h;obtain⟨v,rfl,hv,hb2⟩:=h.at0;exact hK _ _ hb2 (bs_put hs (by decide) hv)),
   trivial⟩ ?_
 clear hs hd s1;intro a w hb hs hd zl hh;have i18:=FItem.bs_holds.1 (hold_get hh 7);obtain⟨v18,s18⟩:∃v,a.tmps.getD 18 undef=v:=⟨_,rfl⟩;rw[s18]at i18;have i22:=FItem.bs_holds.1 (hold_get hh 11);obtain⟨v22,s22⟩:∃v,a.tmps.getD 22 undef=v:=⟨_,rfl⟩;rw[s22]at i22;have i25:=FItem.bs_holds.1 (hold_get hh 14);obtain⟨v25,s25⟩:∃v,a.tmps.getD 25 undef=v:=⟨_,rfl⟩;rw[s25]at i25;have i28:=FItem.bs_holds.1 (hold_get hh 17);obtain⟨v28,s28⟩:∃v,a.tmps.getD 28 undef=v:=⟨_,rfl⟩;rw[s28]at i28;have i31:=FItem.bs_holds.1 (hold_get hh 20);obtain⟨v31,s31⟩:∃v,a.tmps.getD 31 undef=v:=⟨_,rfl⟩;rw[s31]at i31;clear hh;replace hg:=hg.after hb;replace c0:=cell_up hb c0;replace c1:=cell_up hb c1;replace c2:=cell_up hb c2;replace c3:=cell_up hb c3;replace hB:=bz_then hB hb;clear hb;show wpList _ _ _ [_,_] _ _
 refine tail_op rfl (fun K hK=>?_);have q18:=gd s18;have q22:=gd s22;have q25:=gd s25;have q28:=gd s28;have q31:=gd s31;have j18:=i18;obtain⟨x18,A18,k18,-,rfl,-,-,-,-⟩:=j18;have j22:=i22;obtain⟨x22,A22,k22,-,rfl,-,-,-,-⟩:=j22;have j25:=i25;obtain⟨x25,A25,k25,-,rfl,-,-,-,-⟩:=j25;have j28:=i28;obtain⟨x28,A28,k28,-,rfl,-,-,-,-⟩:=j28;have j31:=i31;obtain⟨x31,A31,k31,-,rfl,-,-,-,-⟩:=j31;go_simp;clear q18 q22 q25 q28 q31;refine hK _ _ ?_;clear hK K;obtain⟨s1,-⟩:=zl;refine act_put (d:=32) _ hs hd (by decide) [(1,_),(18,_),(22,_),(25,_),(28,_),(31,_)] ⟨s1,s18,s22,s25,s28,s31,trivial⟩ rfl ?_;clear hs hd s1 s18 s22 s25 s28 s31;intro a hs hd zl;obtain⟨s32,s1,s18,s22,s25,s28,s31,-⟩:=zl;have hL:=Leaves.new (base:=w0.heap.size) (w:=w) (vs:=[.slice A18 x18.length k18,.slice A22 x22.length k22,.slice A25 x25.length k25,.slice A28 x28.length k28,.slice A31 x31.length k31]) (ls:=H.leaves5) ⟨i18,i22,i25,i28,i31,trivial⟩ hB.size (by simp);clear i18 i22 i25 i28 i31;generalize hw1:World.alloc w _=w1;rw[show(World.alloc w _)=w1 from hw1]at hL;have hB1:Below w.heap.size w w1:=by rw[← hw1];exact bz_alloc (bz_refl w) _
 replace hB:=bz_then hB hB1;replace hg:=hg.after hB1;clear hw1 hB1;revert hL s32;generalize (some (⟨w.heap.size,0,none⟩:Addr))=A5;intro s32 hL;refine tail_op rfl (fun K hK=>?_);have q32:=gd s32;go_simp;clear q32;refine hK _ _ ?_;clear hK K;refine act_put (d:=3) _ hs hd (by decide) [(1,_),(18,_),(22,_),(25,_),(28,_),(31,_),(32,_)] ⟨s1,s18,s22,s25,s28,s31,s32,trivial⟩ rfl ?_;clear hs hd s1 s18 s22 s25 s28 s31 s32;intro a hs hd zl;clear c0 c1 c2 c3 n1 n2 n3 n4 n5 n6 kc hk';refine wn 1 ?_;clear hs hd zl;intro a hs hd zl;refine tail_op rfl (fun K hK=>?_);have q33:=gL zl 0;have s33:=vL zl 0;refine op_load_part 35 (.tmp 33) rfl g 9 s33 _ _ #[(H.hh 0).v,(H.hh 1).v,(H.hh 2).v,(H.hh 3).v,(H.hh 4).v,(H.hh 5).v,(H.hh 6).v,(H.hh 7).v] _ hg (show(9+8:Nat)≤18 by decide) rfl rfl (by kernel_rfl) rfl ?_;clear q33;refine hK _ _ (tP hs hd zl ?_);clear hK K hs hd zl s33;intro a hs hd zl;refine wn 1 ?_;clear hs hd zl;intro a hs hd zl;refine wp_block ?_;obtain⟨s35,s34,-,s3,s1,-,-,-,-,-,-,-⟩:=zl;refine wp_loop (fun a w=>∃(k:Nat) (vs:List Value) (A:Option Addr) (c:Nat),SzIs a 52∧DfNil a∧LiveAll [(1,.pointer (some ⟨g,0,none⟩)),(3,.slice A vs.length c),(34,.agg #[(H.hh 0).v,(H.hh 1).v,(H.hh 2).v,(H.hh 3).v,(H.hh 4).v,(H.hh 5).v,(H.hh 6).v,(H.hh 7).v]),(35,.int .i64 ((k:Nat):Int))] a∧(k≤8)∧(Below w0.heap.size w0 w)∧(Blk w g 71 H.cells)∧(Leaves w0.heap.size w A c vs (H.leaves5++H.sums k)))
  (fun a _=>8-(intOf (a.tmps.getD 35 undef)).toNat) ⟨0,_,_,_,hs,hd,⟨s1,s3,s34,s35,trivial⟩,by decide,hB,hg,(by rw[show H.sums 0=[]from rfl,List.append_nil];exact hL)⟩ ?_
 clear hs hd s1 s3 s34 s35;rintro a w ⟨k,vs,A,c,hs,hd,⟨s1,s3,s34,s35,-⟩,hk8,hB,hg,hL⟩;have hm:(intOf (a.tmps.getD 35 undef)).toNat=k:=by rw[s35];simp[intOf]
 rw[hm];clear hm;have HVL:=Is.hid (hL.length.trans (H.sums_length k));by_cases hlt:k<8
 ·have e1:decide (k<8)=true:=decide_eq_true hlt;have e2:decide ((k:Int)<8)=true:=decide_eq_true (by omega);have ew:IntKind.i64.wrap ((k:Int)+1)=((k+1:Nat):Int):=by rw[IntWalk.i64_in _ (by omega)];omega
  have hix:∀u:World,(Instr.index 35 (.agg #[(H.hh 0).v,(H.hh 1).v,(H.hh 2).v,(H.hh 3).v,(H.hh 4).v,(H.hh 5).v,(H.hh 6).v,(H.hh 7).v]) (.int .i64 ((k:Nat):Int))).run Tryz.prog u=.ok ((H.hh k).v) u:=by
   rcases(by omega:k=0∨k=1∨k=2∨k=3∨k=4∨k=5∨k=6∨k=7)with rfl|rfl|rfl|rfl|rfl|rfl|rfl|rfl <;> exact fun _=>by kernel_rfl
  unfold HSl.v at hix s34;have hkk:=(hk.after hB).hh k hlt;refine wp_seq ?_;refine wp_region_list ?_;show wpList _ _ _ [_] _ _
  refine tail_op rfl (fun K hK=>?_);have q35:=gd s35;go_simp;clear q35;refine hK _ _ ?_;clear hK K;refine act_put (d:=36) _ hs hd (by decide) [(1,_),(3,_),(34,_),(35,_)] ⟨s1,s3,s34,s35,trivial⟩ rfl ?_;clear hs hd s1 s3 s34 s35;intro a hs hd zl;refine wn 4 ?_;clear hs hd zl;intro a hs hd zl;refine tail_op rfl (fun K hK=>?_);have q39:=gL zl 0;go_simp;refine(c_some 1 (H.hh k).A (H.hh k).c (H.hh k).l _ (by decide) hkk.bs (by have:=hkk.len;omega)).mono ?_;intro e w3 h;have hAB:=fun k hk=>(hL.own.blk_lt k hk).2
  obtain⟨v40,rfl,i40,hb2⟩:=h.read.at_ (Nat.le_refl _);clear q39;refine hK _ _ (tP hs hd zl ?_);clear hK K hs hd zl;intro a hs hd zl;replace hB:=bz_then hB hb2;replace hg:=hg.after hb2;replace hL:=hL.after hb2;clear hb2 hkk;refine tail_op rfl (fun K hK=>?_);have q40:=gL zl 0;have j40:=i40;obtain⟨x40,A40,k40,-,rfl,-,-,-,-⟩:=j40;go_simp;clear q40;refine hK _ _ (tP hs hd zl ?_);clear hK K hs hd zl;intro a hs hd zl;obtain⟨g2,hE⟩:∃B,Is w3.heap.size B:=is_self _;generalize hw1:World.alloc w3 _=w1;have hg2:Blk w1 g2 32 #[.slice A40 x40.length k40]:=by rw[← hw1,← hE.out];exact Blk.new w3 _ _
  have hB1:Below w3.heap.size w3 w1:=by rw[← hw1];exact bz_alloc (bz_refl w3) _
  replace hB:=bz_then hB hB1;replace hg:=hg.after hB1;replace hL:=hL.after hB1;replace i40:=i40.after hB1;obtain⟨s41,s40,s39,s38,s5,-,-,s1,s3,s34,s35,-⟩:=zl;rw[hE.out]at s41;clear hw1 hB1 hE;refine tail_op rfl (fun K hK=>?_);have q38:=gd s38;have q41:=gd s41;refine op_app_leaf (.tmp 38) (.tmp 41) rfl s38 s41 hL hg2 i40 hAB (by have:=HVL.out;omega) hB.size ?_;intro vs' A' c' w4 hL' hbel hgb;clear q38 q41;refine hK _ _ ?_;clear hK K;refine act_put (d:=42) _ hs hd (by decide) [(1,_),(3,_),(5,_),(34,_),(35,_),(38,_),(39,_),(40,_),(41,_)] ⟨s1,s3,s5,s34,s35,s38,s39,s40,s41,trivial⟩ rfl ?_;clear hs hd s1 s3 s5 s34 s35 s38 s39 s40 s41;intro a hs hd zl;replace hg:=gb_blk hgb hg (hL.own.ne_blk hg (by decide));replace hB:=hB.trans hbel;clear hbel hgb hL hg2 i40;have hL:=hL';refine tail_op rfl (fun K hK=>?_);have q42:=gL zl 0;go_simp;clear q42;refine hK _ _ ?_;clear hK K;obtain⟨s42,s1,s3,s5,s34,s35,s38,s39,s40,s41,-⟩:=zl;refine act_put (d:=3) _ hs hd (by decide) [(1,_),(5,_),(34,_),(35,_),(38,_),(39,_),(40,_),(41,_),(42,_)] ⟨s1,s5,s34,s35,s38,s39,s40,s41,s42,trivial⟩ rfl ?_;clear hs hd s1 s3 s5 s34 s35 s38 s39 s40 s41 s42;intro a hs hd zl;refine wn 1 ?_;clear hs hd zl;intro a hs hd zl;refine tail_op rfl (fun K hK=>?_);have q43:=gL zl 0;go_simp;clear q43;refine hK _ _ ?_;clear hK K;obtain⟨s43,s3,s1,-,s34,s35,-,-,-,-,-,-⟩:=zl;refine act_put (d:=35) _ hs hd (by decide) [(1,_),(3,_),(34,_),(43,_)] ⟨s1,s3,s34,s43,trivial⟩ rfl ?_;clear hs hd s1 s3 s34 s35 s43;intro a hs hd zl;obtain⟨s35,s1,s3,s34,-,-⟩:=zl;refine⟨⟨k+1,_,_,_,hs,hd,⟨s1,s3,s34,s35,trivial⟩,hlt,hB,hg,(by rw[H.sums_succ,← List.append_assoc];exact hL)⟩,?_⟩;rw[s35];simp[intOf];omega
 obtain rfl:k=8:=by omega
 have e1:decide (8<8)=false:=decide_eq_false (by omega);refine wp_seq ?_;refine wp_region_list ?_;show wpList _ _ _ [_] _ _
 refine tail_op rfl (fun K hK=>?_);have q35:=gd s35;go_simp;clear q35;refine hK _ _ ?_;clear hK K;refine act_put (d:=36) _ hs hd (by decide) [(1,_),(3,_),(34,_),(35,_)] ⟨s1,s3,s34,s35,trivial⟩ rfl ?_;clear hs hd s1 s3 s34 s35;intro a hs hd zl;refine wp_seq ?_;refine wp_cond_false (vL zl 0) ?_;refine wp_exit ?_;repeat refine then_exit ?_
 refine inBlock_exit ?_;refine wp_seq ?_;clear hk8 hlt e1;have c17:w.cell? ⟨g,17,none⟩=some (.string H.pr):=by rw[hg.cell];rfl
 have np:=hn.pr;have kc:=fun(w:World)=>Lib.run_convert_string_bytes (P:=Tryz.prog) w 9 32 5 (H.pr) Tryz.underlying9 Tryz.underlying32 Tryz.underlying5
 refine wn 3 ?_;clear hs hd zl;intro a hs hd zl;refine tail_op rfl (fun K hK=>?_);have q46:=gL zl 0;go_simp;clear q46;refine hK _ _ (tP hs hd zl ?_);clear hK K hs hd zl;intro a hs hd zl;have i47:=conv_at w 5 H.pr;generalize hw1:Lib.bytesWorld w _ _=w1;rw[hw1]at i47;have hB1:Below w.heap.size w w1:=by rw[← hw1];exact bz_bytes (bz_refl w) _ _
 replace hB:=bz_then hB hB1;replace hL:=hL.after hB1;clear hw1 hB1 hg c17 kc;refine tail_op rfl (fun K hK=>?_);have q47:=gL zl 0;obtain⟨x47,A47,k47,hx47,hv47,f47,n47,b47,-⟩:=i47;injection hv47 with e1 e2 e3;subst e1 e3;rw[show H.pr.size=x47.length by omega]at q47;go_simp;refine(c_some 1 _ _ x47 _ (by decide) b47 (by rw[hx47.out,bytesOf_length];omega)).mono ?_;intro e w3 h;rw[hx47.out]at h;have hAB:=fun k hk=>(hL.own.blk_lt k hk).2
 obtain⟨v48,rfl,i48,hb2⟩:=h.read.at_ (Nat.le_refl _);clear q47;refine hK _ _ (tP hs hd zl ?_);clear hK K hs hd zl;intro a hs hd zl;replace hB:=bz_then hB hb2;replace hL:=hL.after hb2;clear hb2;refine tail_op rfl (fun K hK=>?_);have q48:=gL zl 0;have j48:=i48;obtain⟨x48,A48,k48,-,rfl,-,-,-,-⟩:=j48;go_simp;clear q48;refine hK _ _ (tP hs hd zl ?_);clear hK K hs hd zl;intro a hs hd zl;obtain⟨g2,hE⟩:∃B,Is w3.heap.size B:=is_self _;generalize hw1:World.alloc w3 _=w1;have hg2:Blk w1 g2 32 #[.slice A48 x48.length k48]:=by rw[← hw1,← hE.out];exact Blk.new w3 _ _
 have hB1:Below w3.heap.size w3 w1:=by rw[← hw1];exact bz_alloc (bz_refl w3) _
 replace hB:=bz_then hB hB1;replace hL:=hL.after hB1;replace i48:=i48.after hB1;obtain⟨s49,s48,s47,s46,s45,s44,s36,s1,s3,-,-,-⟩:=zl;rw[hE.out]at s49;clear hw1 hB1 hE;refine tail_op rfl (fun K hK=>?_);have q44:=gd s44;have q49:=gd s49;refine op_app_leaf (.tmp 44) (.tmp 49) rfl s44 s49 hL hg2 i48 hAB (by have:=HVL.out;omega) hB.size ?_;intro vs' A' c' w4 hL' hbel _;clear q44 q49;refine hK _ _ ?_;clear hK K;refine act_put (d:=50) _ hs hd (by decide) [(1,_),(3,_),(36,_),(44,_),(45,_),(46,_),(47,_),(48,_),(49,_)] ⟨s1,s3,s36,s44,s45,s46,s47,s48,s49,trivial⟩ rfl ?_;clear hs hd s1 s3 s36 s44 s45 s46 s47 s48 s49;intro a hs hd zl;replace hB:=hB.trans hbel;clear hbel hL hg2 i48;have hL:=hL';refine tail_op rfl (fun K hK=>?_);have q50:=gL zl 0;have hLs:=hL.ls0;have hcp:=hL.own.cap;have hvl:vs'.length=H.leaves.length:=hL.length;have h14:=H.leaves_length;rw[hvl]at q50 hcp;go_simp;refine(c_specRoot 20 H.leaves H.leaves.length A' c' _ rfl (by omega) (by omega) hcp hLs (Hd.small hn hk) (by decide)).mono ?_;rintro e w3 ⟨v,rfl,hv,hb2⟩;clear q50;refine hK _ _ (tP hs hd zl ?_);clear hK K hs hd zl;intro a hs hd zl;replace hv:=hv.less hB.size;replace hB:=bz_then hB hb2;refine wn 1 ?_;clear hs hd zl;intro a hs hd zl;refine wp_ret ?_;exact end_tmp rfl hd (vL zl 0) ⟨v,rfl,hv,hB⟩
def Hd.pcells(H:Hd)(ps:HSl):Array Value:=
 #[.int .u64 H.vb,.int .u64 H.va,.string H.ch,.int .i64 H.ht,.int .i64 (H.sec+62135596800),.int .i32 H.ns,H.bh.v,.int .u32 H.bt,H.bp.v,(H.hh 0).v,(H.hh 1).v,(H.hh 2).v,(H.hh 3).v,(H.hh 4).v,(H.hh 5).v,(H.hh 6).v,(H.hh 7).v,ps.v]
theorem LsV.ls0{w:World}{vs:List Value}{ls:List (List Int)}(hv:LsV w vs ls)(hc:vs.length≤1000):Ls0 (w.alloc (.cells vs.toArray 32)) (some ⟨w.heap.size,0,none⟩) ls:=(Leaves.new (base:=0) hv (Nat.zero_le _) hc).ls0
theorem c_HHash(H:Hd)(ps:HSl)(g:Nat)(w:World)(hn:H.num)(hg:Blk w g 152 (H.pcells ps))(hk:H.ok w)(hps:ps.ok w)(hpl:Is ps.l (bytesOf H.pr))(hne:(((H.hh 2).l.length:Int) == 0)=false)(hKt:KTab w 1)(h0:1<w.heap.size):
  Calls Tryz.prog 93 #[.pointer (some ⟨g,0,none⟩)] w fun e w'=>∃v,e=.returned v∧BsAt w.heap.size (rootN 20 H.leaves) v w'∧Below w.heap.size w w':=by
 suffices h:∀w0,(Blk w0 g 152 (H.pcells ps))→(H.ok w0)→(ps.ok w0)→(KTab w0 1)→(1<w0.heap.size)→Below w0.heap.size w0 w→Calls Tryz.prog 93 #[.pointer (some ⟨g,0,none⟩)] w fun e w'=>∃v,e=.returned v∧BsAt w0.heap.size (rootN 20 H.leaves) v w'∧Below w0.heap.size w0 w' from h w hg hk hps hKt h0 (bz_refl w)
 clear hg hk hps hKt h0;intro w0 hg hk hps hKt h0 hB;refine enter_abs Tryz.func93 rfl 91 rfl (by simp) ?_;intro a hs hd hargs;have s0:=hargs 0 _ rfl;clear hargs;refine wp_seq ?_;refine wp_region_list ?_;show wpList _ _ _ [_] _ _
 refine tail_op rfl (fun K hK=>?_);go_simp;refine hK _ _ ?_;clear hK K;refine act_put (d:=2) _ hs hd (by decide) [(0,_)] ⟨s0,trivial⟩ rfl ?_;clear hs hd s0;intro a hs hd zl;refine wp_seq ?_;refine wp_seq ?_;have HNE:=Is.hid hne;have c11:w.cell? ⟨g,11,none⟩=some (.slice (H.hh 2).A (H.hh 2).l.length (H.hh 2).c):=by rw[(hg.after hB).cell];rfl
 refine fl2 [.eq 6 _,.eq 7 (.bool false),.eq 8 (.bool false),.eq 9 _,.eq 10 _,.eq 11 _,.eq 12 _,.eq 13 _,.eq 14 (.bool false)] 9 hs hd zl
  ⟨sP bq,
   sP bq,
   sP bq,
   sY bq,
   sY bq,
   sY bq,
   sY bq,
   sY bq,
   sY bq,
   trivial⟩ ?_
 clear hs hd zl;intro a w hb hs hd zl hh;replace zl:=lH hh 2 zl;replace zl:=lH hh 8 zl;clear hh;replace c11:=cell_up hb c11;replace hB:=bz_then hB hb;clear hb;refine wn 1 ?_;clear hs hd zl;intro a hs hd zl;clear c11 HNE;clear hne;refine wp_cond_false (vL zl 0) ?_;refine wp_skip ?_;refine wp_seq ?_;have n1:=hn.vb;have n2:=hn.va;have n3:=hn.ht;have n4:=hn.sec;have n5:=hn.ns;have n6:=hn.bt;have n7:=hn.ch;refine wn 3 ?_;clear hs hd zl;intro a hs hd zl;refine tail_op rfl (fun K hK=>?_);have q18:=gL zl 0;have s18:=vL zl 0;refine op_load_part 150 (.tmp 18) rfl g 0 s18 _ _ #[.int .u64 H.vb,.int .u64 H.va] _ (hg.after hB) (show(0+2:Nat)≤18 by decide) rfl rfl (by kernel_rfl) rfl ?_;clear q18;refine hK _ _ (tP hs hd zl ?_);clear hK K hs hd zl s18;intro a hs hd zl;refine tail_op rfl (fun K hK=>?_);have q19:=gL zl 0;go_simp;refine(c_ConsM H.vb H.va _ n1 n2).mono ?_;intro e w3 h;obtain⟨v3,rfl,i3,hb2⟩:=h.at0;clear q19;refine hK _ _ (tP hs hd zl ?_);clear hK K hs hd zl;intro a hs hd zl;replace hB:=bz_then hB hb2;clear hb2;refine wn 4 ?_;clear hs hd zl;intro a hs hd zl;refine tail_op rfl (fun K hK=>?_);have q23:=gL zl 0;have s23:=vL zl 0;refine op_load_part 80 (.tmp 23) rfl g 4 s23 _ _ #[.int .i64 (H.sec+62135596800),.int .i32 H.ns] _ (hg.after hB) (show(4+2:Nat)≤18 by decide) rfl rfl (by kernel_rfl) rfl ?_;clear q23;refine hK _ _ (tP hs hd zl ?_);clear hK K hs hd zl s23;intro a hs hd zl;refine tail_op rfl (fun K hK=>?_);have q24:=gL zl 0;go_simp;refine(c_TimeM (H.sec+62135596800) H.ns _ (by omega) (by omega)).mono ?_;intro e w3 h;obtain⟨v4,rfl,i4,hb2⟩:=h.at0;rw[show H.sec+62135596800-62135596800=H.sec by omega]at i4;clear q24;refine hK _ _ (tP hs hd zl ?_);clear hK K hs hd zl;intro a hs hd zl;replace hB:=bz_then hB hb2;replace i3:=i3.after hb2;clear hb2;refine wn 4 ?_;clear hs hd zl;intro a hs hd zl;refine tail_op rfl (fun K hK=>?_);have q28:=gL zl 0;have s28:=vL zl 0;refine op_load_part 117 (.tmp 28) rfl g 6 s28 _ _ #[H.bh.v,.int .u32 H.bt,H.bp.v] _ (hg.after hB) (show(6+3:Nat)≤18 by decide) rfl rfl (by kernel_rfl) rfl ?_;clear q28;refine hK _ _ (tP hs hd zl ?_);clear hK K hs hd zl s28;intro a hs hd zl;refine tail_op rfl (fun K hK=>?_);have q29:=gL zl 0;have hk2:=hk.after hB;have m1:=hk2.bh.len;have m2:=hk2.bp.len;unfold HSl.v at q29;go_simp;refine(c_BidM H.bt H.bh.A H.bp.A H.bh.c H.bp.c H.bh.l H.bp.l _ (by omega) hk2.bh.bs (by omega) hk2.bp.bs (by omega)).mono ?_;intro e w3 h;obtain⟨v5,rfl,i5,hb2⟩:=h.at0;clear q29;refine hK _ _ (tP hs hd zl ?_);clear hK K hs hd zl;intro a hs hd zl;replace hB:=bz_then hB hb2;replace i3:=i3.after hb2;replace i4:=i4.after hb2;clear hb2 hk2 m1 m2;refine wn 1 ?_;clear hs hd zl;intro a hs hd zl;refine wp_seq ?_;have c2:w3.cell? ⟨g,2,none⟩=some (.string H.ch):=by rw[(hg.after hB).cell];rfl
 have c3:w3.cell? ⟨g,3,none⟩=some (.int .i64 H.ht):=by rw[(hg.after hB).cell];rfl
 have c9:w3.cell? ⟨g,9,none⟩=some (.slice (H.hh 0).A (H.hh 0).l.length (H.hh 0).c):=by rw[(hg.after hB).cell];rfl
 have c10:w3.cell? ⟨g,10,none⟩=some (.slice (H.hh 1).A (H.hh 1).l.length (H.hh 1).c):=by rw[(hg.after hB).cell];rfl
 have c11:w3.cell? ⟨g,11,none⟩=some (.slice (H.hh 2).A (H.hh 2).l.length (H.hh 2).c):=by rw[(hg.after hB).cell];rfl
 have c12:w3.cell? ⟨g,12,none⟩=some (.slice (H.hh 3).A (H.hh 3).l.length (H.hh 3).c):=by rw[(hg.after hB).cell];rfl
 have c13:w3.cell? ⟨g,13,none⟩=some (.slice (H.hh 4).A (H.hh 4).l.length (H.hh 4).c):=by rw[(hg.after hB).cell];rfl
 have c14:w3.cell? ⟨g,14,none⟩=some (.slice (H.hh 5).A (H.hh 5).l.length (H.hh 5).c):=by rw[(hg.after hB).cell];rfl
 have c15:w3.cell? ⟨g,15,none⟩=some (.slice (H.hh 6).A (H.hh 6).l.length (H.hh 6).c):=by rw[(hg.after hB).cell];rfl
 have c16:w3.cell? ⟨g,16,none⟩=some (.slice (H.hh 7).A (H.hh 7).l.length (H.hh 7).c):=by rw[(hg.after hB).cell];rfl
 have c17:w3.cell? ⟨g,17,none⟩=some (.slice (ps).A (ps).l.length (ps).c):=by rw[(hg.after hB).cell];rfl
 have hk3:=hk.after hB;have hp3:=hps.after hB;obtain⟨s5,-,-,-,-,-,s4,-,-,-,-,-,s3,-,-,-,-,-,-,-,-,-,s0,-⟩:=zl;refine fl2 (F:=[(0,_),(3,_),(4,_),(5,_)]) [FItem.eq 31 _,FItem.eq 32 _,FItem.eq 33 _,FItem.eq 34 _,FItem.eq 35 _,FItem.bs 36 0 (someL 1 (bytesOf H.ch)),FItem.eq 37 _,FItem.eq 38 _,FItem.eq 39 _,FItem.eq 40 _,FItem.bs 41 0 (numL 1 H.ht.toNat),FItem.eq 42 _,FItem.eq 43 _,FItem.eq 44 _,FItem.eq 45 _,FItem.eq 46 _,FItem.eq 47 _,FItem.bs 48 0 (someL 1 (H.hh 0).l),FItem.eq 49 _,FItem.eq 50 _,FItem.eq 51 _,FItem.eq 52 _,FItem.bs 53 0 (someL 1 (H.hh 1).l),FItem.eq 54 _,FItem.eq 55 _,FItem.eq 56 _,FItem.eq 57 _,FItem.bs 58 0 (someL 1 (H.hh 2).l),FItem.eq 59 _,FItem.eq 60 _,FItem.eq 61 _,FItem.eq 62 _,FItem.bs 63 0 (someL 1 (H.hh 3).l),FItem.eq 64 _,FItem.eq 65 _,FItem.eq 66 _,FItem.eq 67 _,FItem.bs 68 0 (someL 1 (H.hh 4).l),FItem.eq 69 _,FItem.eq 70 _,FItem.eq 71 _,FItem.eq 72 _,FItem.bs 73 0 (someL 1 (H.hh 5).l),FItem.eq 74 _,FItem.eq 75 _,FItem.eq 76 _,FItem.eq 77 _,FItem.bs 78 0 (someL 1 (H.hh 6).l),FItem.eq 79 _,FItem.eq 80 _,FItem.eq 81 _,FItem.eq 82 _,FItem.bs 83 0 (someL 1 (H.hh 7).l),FItem.eq 84 _,FItem.eq 85 _,FItem.eq 86 _,FItem.eq 87 _,FItem.bs 88 0 (someL 1 (ps).l)] 58 hs hd ⟨s0,s3,s4,s5,trivial⟩
  ⟨sP bq,
   sP bq,
   sP bq,
   sP bq,
   sP bq,
   (stp rfl fun a u hb hs hl hd K hK=>by
    have s35:=gD hd 4;have c2:=cell_up hb c2;have c3:=cell_up hb c3;have c9:=cell_up hb c9;have c10:=cell_up hb c10;have c11:=cell_up hb c11;have c12:=cell_up hb c12;have c13:=cell_up hb c13;have c14:=cell_up hb c14;have c15:=cell_up hb c15;have c16:=cell_up hb c16;have c17:=cell_up hb c17;clear hd;go_simp;refine(c_cdcString H.ch _ (by omega)).mono ?_;intro e w5 h;obtain⟨v,rfl,hv,hb2⟩:=h.at0;exact hK _ _ hb2 (bs_put hs (by decide) hv)),
   sP bq,
   sP bq,
   sP bq,
   sP bq,
   (stp rfl fun a u hb hs hl hd K hK=>by
    have s40:=gD hd 9;have c2:=cell_up hb c2;have c3:=cell_up hb c3;have c9:=cell_up hb c9;have c10:=cell_up hb c10;have c11:=cell_up hb c11;have c12:=cell_up hb c12;have c13:=cell_up hb c13;have c14:=cell_up hb c14;have c15:=cell_up hb c15;have c16:=cell_up hb c16;have c17:=cell_up hb c17;clear hd;go_simp;refine(c_cdcInt64 H.ht _ n3.1 n3.2).mono ?_;intro e w5 h;obtain⟨v,rfl,hv,hb2⟩:=h.at0;exact hK _ _ hb2 (bs_put hs (by decide) hv)),
   sP bq,
   sP bq,
   sP bq,
   sP bq,
   sP bq,
   sP bq,
   (stp rfl fun a u hb hs hl hd K hK=>by
    have s47:=gD hd 16;have c2:=cell_up hb c2;have c3:=cell_up hb c3;have c9:=cell_up hb c9;have c10:=cell_up hb c10;have c11:=cell_up hb c11;have c12:=cell_up hb c12;have c13:=cell_up hb c13;have c14:=cell_up hb c14;have c15:=cell_up hb c15;have c16:=cell_up hb c16;have c17:=cell_up hb c17;clear hd;have hk2:=(hk3.hh 0 (by decide)).after hb;go_simp;refine(c_cdcBytes (H.hh 0).A (H.hh 0).c (H.hh 0).l _ hk2.bs (by have:=hk2.len;omega)).mono ?_;intro e w5 h;obtain⟨v,rfl,hv,hb2⟩:=h.at0;exact hK _ _ hb2 (bs_put hs (by decide) hv)),
   sP bq,
   sP bq,
   sP bq,
   sP bq,
   (stp rfl fun a u hb hs hl hd K hK=>by
    have s52:=gD hd 21;have c2:=cell_up hb c2;have c3:=cell_up hb c3;have c9:=cell_up hb c9;have c10:=cell_up hb c10;have c11:=cell_up hb c11;have c12:=cell_up hb c12;have c13:=cell_up hb c13;have c14:=cell_up hb c14;have c15:=cell_up hb c15;have c16:=cell_up hb c16;have c17:=cell_up hb c17;clear hd;have hk2:=(hk3.hh 1 (by decide)).after hb;go_simp;refine(c_cdcBytes (H.hh 1).A (H.hh 1).c (H.hh 1).l _ hk2.bs (by have:=hk2.len;omega)).mono ?_;intro e w5 h;obtain⟨v,rfl,hv,hb2⟩:=h.at0;exact hK _ _ hb2 (bs_put hs (by decide) hv)),
   sP bq,
   sP bq,
   sP bq,
   sP bq,
   (stp rfl fun a u hb hs hl hd K hK=>by
    have s57:=gD hd 26;have c2:=cell_up hb c2;have c3:=cell_up hb c3;have c9:=cell_up hb c9;have c10:=cell_up hb c10;have c11:=cell_up hb c11;have c12:=cell_up hb c12;have c13:=cell_up hb c13;have c14:=cell_up hb c14;have c15:=cell_up hb c15;have c16:=cell_up hb c16;have c17:=cell_up hb c17;clear hd;have hk2:=(hk3.hh 2 (by decide)).after hb;go_simp;refine(c_cdcBytes (H.hh 2).A (H.hh 2).c (H.hh 2).l _ hk2.bs (by have:=hk2.len;omega)).mono ?_;intro e w5 h;obtain⟨v,rfl,hv,hb2⟩:=h.at0;exact hK _ _ hb2 (bs_put hs (by decide) hv)),
   sP bq,
   sP bq,
   sP bq,
   sP bq,
   (stp rfl fun a u hb hs hl hd K hK=>by
    have s62:=gD hd 31;have c2:=cell_up hb c2;have c3:=cell_up hb c3;have c9:=cell_up hb c9;have c10:=cell_up hb c10;have c11:=cell_up hb c11;have c12:=cell_up hb c12;have c13:=cell_up hb c13;have c14:=cell_up hb c14;have c15:=cell_up hb c15;have c16:=cell_up hb c16;have c17:=cell_up hb c17;clear hd;have hk2:=(hk3.hh 3 (by decide)).after hb;go_simp;refine(c_cdcBytes (H.hh 3).A (H.hh 3).c (H.hh 3).l _ hk2.bs (by have:=hk2.len;omega)).mono ?_;intro e w5 h;obtain⟨v,rfl,hv,hb2⟩:=h.at0;exact hK _ _ hb2 (bs_put hs (by decide) hv)),
   sP bq,
   sP bq,
   sP bq,
   sP bq,
   (stp rfl fun a u hb hs hl hd K hK=>by
    have s67:=gD hd 36;have c2:=cell_up hb c2;have c3:=cell_up hb c3;have c9:=cell_up hb c9;have c10:=cell_up hb c10;have c11:=cell_up hb c11;have c12:=cell_up hb c12;have c13:=cell_up hb c13;have c14:=cell_up hb c14;have c15:=cell_up hb c15;have c16:=cell_up hb c16;have c17:=cell_up hb c17;clear hd;have hk2:=(hk3.hh 4 (by decide)).after hb;go_simp;refine(c_cdcBytes (H.hh 4).A (H.hh 4).c (H.hh 4).l _ hk2.bs (by have:=hk2.len;omega)).mono ?_;intro e w5 h;obtain⟨v,rfl,hv,hb2⟩:=h.at0;exact hK _ _ hb2 (bs_put hs (by decide) hv)),
   sP bq,
   sP bq,
   sP bq,
   sP bq,
   (stp rfl fun a u hb hs hl hd K hK=>by
    have s72:=gD hd 41;have c2:=cell_up hb c2;have c3:=cell_up hb c3;have c9:=cell_up hb c9;have c10:=cell_up hb c10;have c11:=cell_up hb c11;have c12:=cell_up hb c12;have c13:=cell_up hb c13;have c14:=cell_up hb c14;have c15:=cell_up hb c15;have c16:=cell_up hb c16;have c17:=cell_up hb c17;clear hd;have hk2:=(hk3.hh 5 (by decide)).after hb;go_simp;refine(c_cdcBytes (H.hh 5).A (H.hh 5).c (H.hh 5).l _ hk2.bs (by have:=hk2.len;omega)).mono ?_;intro e w5 h;obtain⟨v,rfl,hv,hb2⟩:=h.at0;exact hK _ _ hb2 (bs_put hs (by decide) hv)),
   sP bq,
   sP bq,
   sP bq,
   sP bq,
   (stp rfl fun a u hb hs hl hd K hK=>by
    have s77:=gD hd 46;have c2:=cell_up hb c2;have c3:=cell_up hb c3;have c9:=cell_up hb c9;have c10:=cell_up hb c10;have c11:=cell_up hb c11;have c12:=cell_up hb c12;have c13:=cell_up hb c13;have c14:=cell_up hb c14;have c15:=cell_up hb c15;have c16:=cell_up hb c16;have c17:=cell_up hb c17;clear hd;have hk2:=(hk3.hh 6 (by decide)).after hb;go_simp;refine(c_cdcBytes (H.hh 6).A (H.hh 6).c (H.hh 6).l _ hk2.bs (by have:=hk2.len;omega)).mono ?_;intro e w5 h;obtain⟨v,rfl,hv,hb2⟩:=h.at0;exact hK _ _ hb2 (bs_put hs (by decide) hv)),
   sP bq,
   sP bq,
   sP bq,
   sP bq,
   (stp rfl fun a u hb hs hl hd K hK=>by
    have s82:=gD hd 51;have c2:=cell_up hb c2;have c3:=cell_up hb c3;have c9:=cell_up hb c9;have c10:=cell_up hb c10;have c11:=cell_up hb c11;have c12:=cell_up hb c12;have c13:=cell_up hb c13;have c14:=cell_up hb c14;have c15:=cell_up hb c15;have c16:=cell_up hb c16;have c17:=cell_up hb c17;clear hd;have hk2:=(hk3.hh 7 (by decide)).after hb;go_simp;refine(c_cdcBytes (H.hh 7).A (H.hh 7).c (H.hh 7).l _ hk2.bs (by have:=hk2.len;omega)).mono ?_;intro e w5 h;obtain⟨v,rfl,hv,hb2⟩:=h.at0;exact hK _ _ hb2 (bs_put hs (by decide) hv)),
   sP bq,
   sP bq,
   sP bq,
   sP bq,
   (stp rfl fun a u hb hs hl hd K hK=>by
    have s87:=gD hd 56;have c2:=cell_up hb c2;have c3:=cell_up hb c3;have c9:=cell_up hb c9;have c10:=cell_up hb c10;have c11:=cell_up hb c11;have c12:=cell_up hb c12;have c13:=cell_up hb c13;have c14:=cell_up hb c14;have c15:=cell_up hb c15;have c16:=cell_up hb c16;have c17:=cell_up hb c17;clear hd;have hk2:=hp3.after hb;go_simp;refine(c_cdcBytes (ps).A (ps).c (ps).l _ hk2.bs (by have:=hk2.len;omega)).mono ?_;intro e w5 h;obtain⟨v,rfl,hv,hb2⟩:=h.at0;exact hK _ _ hb2 (bs_put hs (by decide) hv)),
   trivial⟩ ?_
 clear hs hd s0 s3 s4 s5;intro a w hb hs hd zl hh;replace zl:=lH hh 0 zl;replace zl:=lH hh 11 zl;replace zl:=lH hh 12 zl;have i36:=FItem.bs_holds.1 (hold_get hh 5);obtain⟨v36,s36⟩:∃v,a.tmps.getD 36 undef=v:=⟨_,rfl⟩;rw[s36]at i36;have i41:=FItem.bs_holds.1 (hold_get hh 10);obtain⟨v41,s41⟩:∃v,a.tmps.getD 41 undef=v:=⟨_,rfl⟩;rw[s41]at i41;have i48:=FItem.bs_holds.1 (hold_get hh 17);obtain⟨v48,s48⟩:∃v,a.tmps.getD 48 undef=v:=⟨_,rfl⟩;rw[s48]at i48;have i53:=FItem.bs_holds.1 (hold_get hh 22);obtain⟨v53,s53⟩:∃v,a.tmps.getD 53 undef=v:=⟨_,rfl⟩;rw[s53]at i53;have i58:=FItem.bs_holds.1 (hold_get hh 27);obtain⟨v58,s58⟩:∃v,a.tmps.getD 58 undef=v:=⟨_,rfl⟩;rw[s58]at i58;have i63:=FItem.bs_holds.1 (hold_get hh 32);obtain⟨v63,s63⟩:∃v,a.tmps.getD 63 undef=v:=⟨_,rfl⟩;rw[s63]at i63;have i68:=FItem.bs_holds.1 (hold_get hh 37);obtain⟨v68,s68⟩:∃v,a.tmps.getD 68 undef=v:=⟨_,rfl⟩;rw[s68]at i68;have i73:=FItem.bs_holds.1 (hold_get hh 42);obtain⟨v73,s73⟩:∃v,a.tmps.getD 73 undef=v:=⟨_,rfl⟩;rw[s73]at i73;have i78:=FItem.bs_holds.1 (hold_get hh 47);obtain⟨v78,s78⟩:∃v,a.tmps.getD 78 undef=v:=⟨_,rfl⟩;rw[s78]at i78;have i83:=FItem.bs_holds.1 (hold_get hh 52);obtain⟨v83,s83⟩:∃v,a.tmps.getD 83 undef=v:=⟨_,rfl⟩;rw[s83]at i83;have i88:=FItem.bs_holds.1 (hold_get hh 57);obtain⟨v88,s88⟩:∃v,a.tmps.getD 88 undef=v:=⟨_,rfl⟩;rw[s88]at i88;clear hh;replace i3:=i3.after hb;replace i4:=i4.after hb;replace i5:=i5.after hb;replace c2:=cell_up hb c2;replace c3:=cell_up hb c3;replace c9:=cell_up hb c9;replace c10:=cell_up hb c10;replace c11:=cell_up hb c11;replace c12:=cell_up hb c12;replace c13:=cell_up hb c13;replace c14:=cell_up hb c14;replace c15:=cell_up hb c15;replace c16:=cell_up hb c16;replace c17:=cell_up hb c17;replace hB:=bz_then hB hb;clear hb;show wpList _ _ _ [_,_,_] _ _
 refine tail_op rfl (fun K hK=>?_);have q31:=gL zl 2;have q36:=gd s36;have q41:=gd s41;have q42:=gL zl 1;have q43:=gL zl 0;have q48:=gd s48;have q53:=gd s53;have q58:=gd s58;have q63:=gd s63;have q68:=gd s68;have q73:=gd s73;have q78:=gd s78;have q83:=gd s83;have q88:=gd s88;have j3:=i3;obtain⟨x3,A3,k3,-,rfl,-,-,-,-⟩:=j3;have j4:=i4;obtain⟨x4,A4,k4,-,rfl,-,-,-,-⟩:=j4;have j5:=i5;obtain⟨x5,A5,k5,-,rfl,-,-,-,-⟩:=j5;have j36:=i36;obtain⟨x36,A36,k36,-,rfl,-,-,-,-⟩:=j36;have j41:=i41;obtain⟨x41,A41,k41,-,rfl,-,-,-,-⟩:=j41;have j48:=i48;obtain⟨x48,A48,k48,-,rfl,-,-,-,-⟩:=j48;have j53:=i53;obtain⟨x53,A53,k53,-,rfl,-,-,-,-⟩:=j53;have j58:=i58;obtain⟨x58,A58,k58,-,rfl,-,-,-,-⟩:=j58;have j63:=i63;obtain⟨x63,A63,k63,-,rfl,-,-,-,-⟩:=j63;have j68:=i68;obtain⟨x68,A68,k68,-,rfl,-,-,-,-⟩:=j68;have j73:=i73;obtain⟨x73,A73,k73,-,rfl,-,-,-,-⟩:=j73;have j78:=i78;obtain⟨x78,A78,k78,-,rfl,-,-,-,-⟩:=j78;have j83:=i83;obtain⟨x83,A83,k83,-,rfl,-,-,-,-⟩:=j83;have j88:=i88;obtain⟨x88,A88,k88,-,rfl,-,-,-,-⟩:=j88;go_simp;clear q31 q36 q41 q42 q43 q48 q53 q58 q63 q68 q73 q78 q83 q88;refine hK _ _ ?_;clear hK K;obtain⟨s43,s42,s31,-,-,-,-,-⟩:=zl;refine act_put (d:=89) _ hs hd (by decide) [(31,_),(36,_),(41,_),(42,_),(43,_),(48,_),(53,_),(58,_),(63,_),(68,_),(73,_),(78,_),(83,_),(88,_)] ⟨s31,s36,s41,s42,s43,s48,s53,s58,s63,s68,s73,s78,s83,s88,trivial⟩ rfl ?_;clear hs hd s31 s36 s41 s42 s43 s48 s53 s58 s63 s68 s73 s78 s83 s88;intro a hs hd zl;have hLs:=LsV.ls0 (w:=w) (vs:=[.slice A3 x3.length k3,.slice A36 x36.length k36,.slice A41 x41.length k41,.slice A4 x4.length k4,.slice A5 x5.length k5,.slice A48 x48.length k48,.slice A53 x53.length k53,.slice A58 x58.length k58,.slice A63 x63.length k63,.slice A68 x68.length k68,.slice A73 x73.length k73,.slice A78 x78.length k78,.slice A83 x83.length k83,.slice A88 x88.length k88]) (ls:=H.leaves) ⟨i3,i36,i41,i4,i5,i48,i53,i58,i63,i68,i73,i78,i83,by rw[← hpl.out];exact i88,trivial⟩ (by simp);clear i3 i4 i5 i36 i41 i48 i53 i58 i63 i68 i73 i78 i83 i88;generalize hw1:World.alloc w _=w1;rw[show(World.alloc w _)=w1 from hw1]at hLs;have hB1:Below w.heap.size w w1:=by rw[← hw1];exact bz_alloc (bz_refl w) _
 replace hB:=bz_then hB hB1;clear hw1 hB1;refine tail_op rfl (fun K hK=>?_);have q89:=gL zl 0;have hSm:Small H.leaves:=Hd.small hn (hk.after hB);go_simp;refine(c_root H.leaves 14 _ 14 _ H.leaves_length (by decide) (by decide) hLs hSm ((hKt.after hB)) (Nat.lt_of_lt_of_le h0 hB.size)).mono ?_;rintro e w5 ⟨v,rfl,hv,hb2⟩;clear q89;refine hK _ _ (tP hs hd zl ?_);clear hK K hs hd zl;intro a hs hd zl;replace hv:=hv.less hB.size;replace hB:=bz_then hB hb2;refine wn 1 ?_;clear hs hd zl;intro a hs hd zl;refine wp_ret ?_;exact end_tmp rfl hd (vL zl 0) ⟨v,rfl,hv,hB⟩
def bel(x n:Int):Int:=(if x< -x-1 then -x-1 else x) % n
theorem bel_range(x n:Int)(hn:0<n):0≤bel x n∧bel x n<n:=by
 unfold bel;exact⟨Int.emod_nonneg _ (by omega),Int.emod_lt_of_pos _ hn⟩
theorem bel_neg(x:Int)(hx:-9223372036854775808≤x∧x≤9223372036854775807):wrap64 (-wrap64 (x+1))= -x-1:=by
 unfold wrap64;omega
theorem c_below(x n:Int)(w:World)(hx:-9223372036854775808≤x∧x≤9223372036854775807)(hn:0<n∧n≤9223372036854775807):
  Calls Tryz.prog 12 #[.int .i64 x,.int .i64 n] w fun e w'=>e=.returned (.int .i64 (bel x n))∧w=w':=by
 have H:=bel_neg x hx
 go_enter Tryz.func12,Tryz.ntmps12
 go_wp2
 ·go_ret
  have h1:x< -x-1:=by assumption
  exact⟨by unfold bel;rw[if_pos h1];rfl,rfl⟩
 ·go_ret
  have h1:-x-1≤x:=by assumption
  exact⟨by unfold bel;rw[if_neg (by omega)];rfl,rfl⟩
theorem c_UnixTime(s n:Int)(w:World)(hs:-9000000000000000000≤s∧s≤9000000000000000000):
  Calls Tryz.prog 56 #[.int .i64 s,.int .i32 n] w fun e w'=>e=.returned (.agg #[.int .i64 (s+62135596800),.int .i32 n])∧Below w.heap.size w w':=by
 go_enter Tryz.func56,Tryz.ntmps56
 go_wp2
 exact bodyPost_ret (v:=.agg #[.int .i64 (s+62135596800),.int .i32 n]) (by simp[results,Tryz.results56,go_sem]) rfl ⟨rfl,(Below.refl _ _).alloc (Nat.le_refl _) _⟩
theorem c_moment(s n:Int)(w:World)(hs:-9000000000000000000≤s∧s≤9000000000000000000)(hn:0≤n∧n≤2147483647):
  Calls Tryz.prog 32 #[.agg #[.int .i64 s,.int .i64 n]] w fun e w'=>e=.returned (.agg #[.int .i64 (s+62135596800),.int .i32 n])∧Below w.heap.size w w':=by
 go_enter Tryz.func32,Tryz.ntmps32
 go_wp2_with (go_at_call 56;refine(c_UnixTime _ _ _ (by omega)).mono ?_;rintro e w1 ⟨rfl,hb⟩;obtain⟨hc,hf⟩:=bcell hb;have hz:=hb.size;simp only[World.size_alloc]at hc hf hz)
 exact bodyPost_ret (v:=.agg #[.int .i64 (s+62135596800),.int .i32 n]) (by simp[results,Tryz.results32,go_sem,hc]) rfl ⟨rfl,by
  refine Below.setCell (Below.setCell ?_ (by simp) _) (by simp) _;exact(((Below.refl _ _).alloc (Nat.le_refl _) _).alloc (by simp) _).trans (hb.mono (by simp;omega))⟩
def laterB(s n s' n':Int):Bool:=decide (s'<s) || (decide (s=s') && decide (n'<n))
theorem c_After(s n s' n':Int)(w:World):
  Calls Tryz.prog 81 #[.agg #[.int .i64 s,.int .i32 n],.agg #[.int .i64 s',.int .i32 n']] w fun e w'=>e=.returned (.bool (laterB s n s' n'))∧Below w.heap.size w w':=by
 by_cases h1:s'<s
 ·go_enter Tryz.func81,Tryz.ntmps81
  go_wp2
  go_ret
  exact⟨by simp[laterB,h1],by(repeat' (first|exact Below.refl _ _|exact Nat.le_refl _|(with_reducible assumption)|refine Below.setCell ?_ ?_ _|refine Below.alloc ?_ ?_ _|refine below_drewN ?_ _|refine Below.drew ?_|(simp;done)|omega|(simp;omega)|(simp at *;omega)))⟩
 ·by_cases h2:s=s'
  ·subst h2;by_cases h3:n'<n;all_goals
    go_enter Tryz.func81,Tryz.ntmps81
    go_wp2
    go_ret
    exact⟨by simp[laterB,h3],by(repeat' (first|exact Below.refl _ _|exact Nat.le_refl _|(with_reducible assumption)|refine Below.setCell ?_ ?_ _|refine Below.alloc ?_ ?_ _|refine below_drewN ?_ _|refine Below.drew ?_|(simp;done)|omega|(simp;omega)|(simp at *;omega)))⟩
  ·have h4:(s == s')=false:=by simpa using h2
   go_enter Tryz.func81,Tryz.ntmps81
   go_wp2
   go_ret
   exact⟨by simp[laterB,h1,h2],by(repeat' (first|exact Below.refl _ _|exact Nat.le_refl _|(with_reducible assumption)|refine Below.setCell ?_ ?_ _|refine Below.alloc ?_ ?_ _|refine below_drewN ?_ _|refine Below.drew ?_|(simp;done)|omega|(simp;omega)|(simp at *;omega)))⟩
def NewErr(w:World)(e:Ending)(w':World):Prop:=∃a:Addr,e=.returned (.iface 166 (.pointer (some a)))∧Below w.heap.size w w'
theorem c_errNew(s:ByteArray)(w:World):Calls Tryz.prog 61 #[.string s] w (NewErr w):=by
 go_enter Tryz.func61,Tryz.ntmps61
 go_wp2
 go_ret
 exact⟨_,rfl,(Below.refl _ _).alloc (Nat.le_refl _) _⟩
theorem str_nil:strOfNums []=ByteArray.empty:=rfl
theorem run_conv_bs{w:World}{A:Option Addr}{c:Nat}{l:List Int}(hf:Fm A l.length c)(hb:Bs w A l)(src dst:TypeId)(hs:Tryz.prog.underlying src=some (.slice 5))(hd:Tryz.prog.underlying dst=some .string):
  (convert src dst (.slice A l.length c)).run Tryz.prog w=.ok (.string (strOfNums l)) w:=by
 rcases hf.arg with⟨rfl,rfl,h0⟩|⟨b,o,rfl⟩
 ·have h0:l=[]:=h0;subst h0;have h:=run_convert_bytes_nil (P:=Tryz.prog) w src 5 hs Tryz.underlying5 ([]:List Int).length 0 dst hd;rw[str_nil];exact h
 ·refine run_convert_bytes_arg w src 5 hs Tryz.underlying5 b o l.length c l rfl (fun i hi=>?_) dst hd;obtain⟨b',o',e,_,hc⟩:=hb i hi;injection e with e;injection e with e1 e2;subst e1 e2;exact hc
theorem run_conv_any{w:World}{A:Option Addr}{c:Nat}{l:List Int}(hf:Fm A l.length c∨∃ad,A=some ad∧l=[])(hb:Bs w A l)(src dst:TypeId)(hs:Tryz.prog.underlying src=some (.slice 5))(hd:Tryz.prog.underlying dst=some .string):
  (convert src dst (.slice A l.length c)).run Tryz.prog w=.ok (.string (strOfNums l)) w:=by
 rcases hf with hf|⟨ad,rfl,rfl⟩
 ·exact run_conv_bs hf hb src dst hs hd
 ·have hl:(loadCells ad 0).run Tryz.prog w=.ok (([]:List Int).map (Value.int .u8)).toArray w:=by
   simpa using run_loadCells_list (P:=Tryz.prog) w ad [] (fun j v hj=>by simp at hj)
  show(convert src dst (.slice (some ad) 0 c)).run Tryz.prog w=_
  rw[run_convert_bytes_string w src dst 5 _ 0 c hs Tryz.underlying5 hd,run_bytesToString w ad 0 c [] hl,str_nil];rfl
theorem bytesOf_str{l:List Int}(h:Bytes l):bytesOf (strOfNums l)=l:=by
 unfold bytesOf;rw[strOfNums_data,List.map_map];conv=>rhs;rw[← List.map_id l]
 refine List.map_congr_left fun x hx=>?_
 have:=h x hx;unfold U8 at this;simp only[Function.comp,id];rw[UInt8.toNat_ofNat'];omega
theorem str_size(l:List Int):(strOfNums l).size=l.length:=strOfNums_size l
def eqB(s t:ByteArray):Bool:=s.toList == t.toList
theorem eqB_iff(s t:ByteArray):eqB s t=true↔s=t:=by
 unfold eqB;rw[beq_iff_eq,ByteArray.toList_eq,ByteArray.toList_eq];constructor
 ·intro h
  cases s
  cases t
  congr 1
  exact Array.toList_inj.1 h
 ·rintro rfl;rfl
theorem eqB_str{l k:List Int}(hl:Bytes l)(hk:Bytes k):eqB (strOfNums l) (strOfNums k)=decide (l=k):=by
 by_cases h:l=k
 ·subst h;simp[eqB]
 ·have:eqB (strOfNums l) (strOfNums k)=false:=by
   rw[Bool.eq_false_iff];intro e;rw[eqB_iff]at e;apply h;rw[← bytesOf_str hl,← bytesOf_str hk,e]
  rw[this];simp[h]
theorem c_bEqual(A A':Option Addr)(c c':Nat)(l k:List Int)(w:World)(hf:Fm A l.length c)(hb:Bs w A l)(h8:Bytes l)(hf':Fm A' k.length c')(hb':Bs w A' k)(h8':Bytes k):
  Calls Tryz.prog 75 #[.slice A l.length c,.slice A' k.length c'] w fun e w'=>e=.returned (.bool (decide (l=k)))∧w'=w:=by
 have h1:=run_conv_bs hf hb 32 9 Tryz.underlying32 Tryz.underlying9;have h2:=run_conv_bs hf' hb' 32 9 Tryz.underlying32 Tryz.underlying9;rw[← eqB_str h8 h8'];unfold eqB
 go_enter Tryz.func75,Tryz.ntmps75
 go_wp2
 go_ret
 exact⟨rfl,rfl⟩
def Sized(l:List Int):Prop:=l.length=0∨l.length=32
theorem c_vHash(A:Option Addr)(c:Nat)(l:List Int)(w:World)(hl:Sized l):Calls Tryz.prog 103 #[.slice A l.length c] w fun e w'=>e=.returned .nilIface∧w'=w:=by
 obtain⟨n,hn⟩:∃n,Is l.length n:=is_self _;unfold Sized at hl;rw[hn.out]at hl⊢;rcases hl with rfl|rfl
 ·go_enter Tryz.func103,Tryz.ntmps103
  go_wp2
  go_ret
  exact⟨rfl,rfl⟩
 ·go_enter Tryz.func103,Tryz.ntmps103
  go_wp2
  go_ret
  exact⟨rfl,rfl⟩
theorem c_pshV(p:Int)(A:Option Addr)(c:Nat)(l:List Int)(w:World)(hl:Sized l):Calls Tryz.prog 125 #[.agg #[.int .u32 p,.slice A l.length c]] w fun e w'=>e=.returned .nilIface∧Below w.heap.size w w':=by
 go_enter Tryz.func125,Tryz.ntmps125
 go_wp2_with (go_at_call 103;refine(c_vHash _ _ _ _ hl).mono ?_;rintro e w1 ⟨rfl,rfl⟩)
 go_ret
 exact⟨rfl,by(repeat' (first|exact Below.refl _ _|exact Nat.le_refl _|(with_reducible assumption)|refine Below.setCell ?_ ?_ _|refine Below.alloc ?_ ?_ _|refine below_drewN ?_ _|refine Below.drew ?_|(simp;done)|omega|(simp;omega)|(simp at *;omega)))⟩
theorem c_bidV(p:Int)(A A':Option Addr)(c c':Nat)(s r:List Int)(w:World)(hs:Sized s)(hr:Sized r):Calls Tryz.prog 102 #[.agg #[.slice A s.length c,.int .u32 p,.slice A' r.length c']] w fun e w'=>e=.returned .nilIface∧Below w.heap.size w w':=by
 go_enter Tryz.func102,Tryz.ntmps102
 go_wp2_with (first|(go_at_call 103;refine(c_vHash _ _ _ _ hs).mono ?_;rintro e w1 ⟨rfl,rfl⟩)|(go_at_call 125;refine(c_pshV _ _ _ _ _ hr).mono ?_;rintro e w1 ⟨rfl,hb1⟩))
 go_ret
 exact⟨rfl,bz_then (bz_alloc (bz_refl _) _) hb1⟩
theorem c_Before(s n s' n':Int)(w:World):
  Calls Tryz.prog 83 #[.agg #[.int .i64 s,.int .i32 n],.agg #[.int .i64 s',.int .i32 n']] w fun e w'=>e=.returned (.bool (laterB s' n' s n))∧Below w.heap.size w w':=by
 go_enter Tryz.func83,Tryz.ntmps83
 go_wp2_with (go_at_call 81;refine(c_After _ _ _ _ _).mono ?_;rintro e w1 ⟨rfl,hb1⟩)
 go_ret
 exact⟨rfl,bz_then (bz_alloc (bz_alloc (bz_refl _) _) _) hb1⟩
def sameB(s:Seat)(ad:ByteArray)(x:Seat):Bool:=eqB x.k s.k || eqB x.a ad
theorem c_set1(x s:Seat)(ad:ByteArray)(gs ga:Nat)(t:TypeId)(w:World)(hgs:Blk w gs 63 s.cells.toArray)(hga:Blk w ga t #[.string ad]):
  Calls Tryz.prog 24 #[.agg x.cells.toArray,.pointer (some ⟨gs,0,none⟩),.pointer (some ⟨ga,0,none⟩)] w fun e w'=>e=.returned (.bool (sameB s ad x))∧Below w.heap.size w w':=by
 have hs:=hgs.alloc (.cells #[.string x.a,.string x.k,.int .i64 x.p,.int .i64 x.q] 48);have ha:=hga.alloc (.cells #[.string x.a,.string x.k,.int .i64 x.p,.int .i64 x.q] 48);have c1:=hs.cell 1;have c2:=ha.cell 0;have hz1:=hgs.lt;have hz2:=hga.lt;unfold Seat.cells at *;obtain⟨b,hb⟩:∃b,eqB x.k s.k=b:=⟨_,rfl⟩;obtain⟨d,hd⟩:∃d,eqB x.a ad=d:=⟨_,rfl⟩;have hfin:Is (sameB s ad x) (b || d):=by unfold Is sameB;rw[hb,hd]
 unfold eqB at hb hd;clear hs ha;rw[hfin.out]
 cases b;all_goals
  go_enter Tryz.func24,Tryz.ntmps24
  go_wp2
  go_ret
  exact⟨rfl,by(repeat' (first|exact Below.refl _ _|exact Nat.le_refl _|(with_reducible assumption)|refine Below.setCell ?_ ?_ _|refine Below.alloc ?_ ?_ _|refine below_drewN ?_ _|refine Below.drew ?_|(simp;done)|omega|(simp;omega)|(simp at *;omega)))⟩
def fit2B(s:Seat):Bool:=decide (s.a.size≤2147483647) && decide (s.k.size≤2147483647)
theorem c_zzFits2(s:Seat)(w:World):
  Calls Tryz.prog 35 #[.agg s.cells.toArray] w fun e w'=>e=.returned (.bool (fit2B s))∧Below w.heap.size w w':=by
 unfold Seat.cells;by_cases h1:s.a.size≤2147483647
 ·by_cases h2:s.k.size≤2147483647
  ·have e1:decide (2147483647<s.a.size)=false:=decide_eq_false (by omega);have e2:decide (2147483647<s.k.size)=false:=decide_eq_false (by omega);have e1':decide ((2147483647:Int)<(s.a.size:Int))=false:=decide_eq_false (by omega);have e2':decide ((2147483647:Int)<(s.k.size:Int))=false:=decide_eq_false (by omega);rw[show fit2B s=true by simp[fit2B,h1,h2]]
   go_enter Tryz.func35,Tryz.ntmps35
   go_wp2
   go_ret
   exact⟨rfl,by(repeat' (first|exact Below.refl _ _|exact Nat.le_refl _|(with_reducible assumption)|refine Below.setCell ?_ ?_ _|refine Below.alloc ?_ ?_ _|refine below_drewN ?_ _|refine Below.drew ?_|(simp;done)|omega|(simp;omega)|(simp at *;omega)))⟩
  ·have e1:decide (2147483647<s.a.size)=false:=decide_eq_false (by omega);have e2:decide (2147483647<s.k.size)=true:=decide_eq_true (by omega);have e1':decide ((2147483647:Int)<(s.a.size:Int))=false:=decide_eq_false (by omega);have e2':decide ((2147483647:Int)<(s.k.size:Int))=true:=decide_eq_true (by omega);rw[show fit2B s=false by simp[fit2B,h2]]
   go_enter Tryz.func35,Tryz.ntmps35
   go_wp2
   go_ret
   exact⟨rfl,by(repeat' (first|exact Below.refl _ _|exact Nat.le_refl _|(with_reducible assumption)|refine Below.setCell ?_ ?_ _|refine Below.alloc ?_ ?_ _|refine below_drewN ?_ _|refine Below.drew ?_|(simp;done)|omega|(simp;omega)|(simp at *;omega)))⟩
 ·have e1:decide (2147483647<s.a.size)=true:=decide_eq_true (by omega);have e1':decide ((2147483647:Int)<(s.a.size:Int))=true:=decide_eq_true (by omega);rw[show fit2B s=false by simp[fit2B,h1]]
  go_enter Tryz.func35,Tryz.ntmps35
  go_wp2
  go_ret
  exact⟨rfl,by(repeat' (first|exact Below.refl _ _|exact Nat.le_refl _|(with_reducible assumption)|refine Below.setCell ?_ ?_ _|refine Below.alloc ?_ ?_ _|refine below_drewN ?_ _|refine Below.drew ?_|(simp;done)|omega|(simp;omega)|(simp at *;omega)))⟩
def idxB(p:Seat→Bool)(S:List Seat):Int:=match S.findIdx? p with|some i=>(i:Int)|none=>-1
theorem idxB_at{p:Seat→Bool}{S:List Seat}{k:Nat}{s:Seat}(h:S[k]?=some s)(hp:p s=true)(hb:∀i x,i<k→S[i]?=some x→p x=false):idxB p S=k:=by
 have:S.findIdx? p=some k:=by
  rw[List.findIdx?_eq_some_iff_getElem];have hk:k<S.length:=(List.getElem?_eq_some_iff.1 h).1;refine⟨hk,?_,fun j hj=>?_⟩
  ·rw[(List.getElem?_eq_some_iff.1 h).2];exact hp
  ·have hjl:j<S.length:=by omega
   rw[hb j S[j] hj (List.getElem?_eq_getElem hjl)];decide
 unfold idxB;rw[this]
theorem idxB_none{p:Seat→Bool}{S:List Seat}(hb:∀i x,i<S.length→S[i]?=some x→p x=false):idxB p S= -1:=by
 have:S.findIdx? p=none:=by
  rw[List.findIdx?_eq_none_iff];intro x hx;obtain⟨i,hi⟩:=List.getElem?_of_mem hx;exact hb i x (List.getElem?_eq_some_iff.1 hi).1 hi
 unfold idxB;rw[this]
theorem idxB_any(p:Seat→Bool)(S:List Seat):decide (0≤idxB p S)=S.any p:=by
 unfold idxB
 cases h:S.findIdx? p with
 |none=>
  rw[List.findIdx?_eq_none_iff]at h;have:S.any p=false:=by rw[List.any_eq_false];intro x hx;rw[h x hx];decide
  rw[this];rfl
 |some i=>
  rw[List.findIdx?_eq_some_iff_getElem]at h;obtain⟨hi,hp,_⟩:=h;have:S.any p=true:=List.any_eq_true.2 ⟨S[i],List.getElem_mem hi,hp⟩;rw[this];show decide ((0:Int)≤(i:Int))=true
  exact decide_eq_true (by omega)
theorem idxB_lt(p:Seat→Bool)(S:List Seat):-1≤idxB p S∧idxB p S<S.length:=by
 unfold idxB
 cases h:S.findIdx? p with
 |none=>show -1≤(-1:Int)∧(-1:Int)<_;omega
 |some i=>
  rw[List.findIdx?_eq_some_iff_getElem]at h;obtain⟨hi,_⟩:=h;show -1≤(i:Int)∧(i:Int)<_
  omega
end Go.Proofs.YtjhnnjhaklohhaaGreatDoor
