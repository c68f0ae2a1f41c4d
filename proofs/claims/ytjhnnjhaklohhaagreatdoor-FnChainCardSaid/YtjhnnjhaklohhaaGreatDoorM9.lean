/- Headers of the thin package as the reference has them, and as the package has them. (Printed by gen_hdr.py.) The reference's sum of a set. (Printed by gen_seatsum.py.) A header made. (Printed by gen_headed.py.) What is signed, of the package: the vote, canonical. (Printed by gen_vsb.py.) What is signed, of the package: the bytes. What is signed, of the package: VoteSignBytes. (Printed by gen_vsbt.py.) Plain signatures: the sum of the key's length, the key, the message. (Printed by gen_plain.py.) -/
import Derived.Test.YtjhnnjhaklohhaaGreatDoorM7
import Derived.Test.YtjhnnjhaklohhaaGreatDoorM1
import Derived.Test.YtjhnnjhaklohhaaGreatDoorM8
import Derived.Deep.DeepCutAuto
set_option linter.unusedVariables false
set_option linter.unusedSimpArgs false
set_option maxHeartbeats 4000000
set_option maxRecDepth 100000
namespace Go.Proofs.YtjhnnjhaklohhaaGreatDoor
open Go.RowKit
theorem c_block(s r:HSl)(parts:Int)(w:World)(hp:0≤parts∧parts≤4294967295):
  Calls Tryz.prog 53 #[.agg #[s.v,.int .i64 parts,r.v]] w fun e w'=>e=.returned (.agg #[s.v,.int .u32 parts,r.v])∧Below w.heap.size w w':=by
 unfold HSl.v
 go_enter Tryz.func53,Tryz.ntmps53
 go_wp2
 exact bodyPost_ret (v:=.agg #[.slice s.A s.l.length s.c,.int .u32 parts,.slice r.A r.l.length r.c]) (by simp[results,Tryz.results53,go_sem]) rfl (⟨rfl,by(repeat' (first|exact Below.refl _ _|exact Nat.le_refl _|(with_reducible assumption)|refine Below.setCell ?_ ?_ _|refine Below.alloc ?_ ?_ _|refine below_drewN ?_ _|refine Below.drew ?_|(simp;done)|omega|(simp;omega)|(simp at *;omega)))⟩)
theorem Hd.one(H:Hd):∀v∈H.cells.toList,v.oneCell'=true:=(by intro v hv;simp only[Hd.cells,HSl.v,List.mem_cons,List.not_mem_nil,or_false]at hv;rcases hv with rfl|rfl|rfl|rfl|rfl|rfl|rfl|rfl|rfl|rfl|rfl|rfl|rfl|rfl|rfl|rfl|rfl|rfl <;> rfl)
theorem c_lheader(H:Hd)(w:World):
  Calls Tryz.prog 28 #[.agg H.cells] w fun e w'=>e=.returned (.agg H.cells)∧Below w.heap.size w w':=by
 suffices h:∀w0,Below w0.heap.size w0 w→Calls Tryz.prog 28 #[.agg H.cells] w fun e w'=>e=.returned (.agg H.cells)∧Below w0.heap.size w0 w' from h w (bz_refl w)
 intro w0 hB;refine enter_abs Tryz.func28 rfl 20 rfl (by simp) ?_;intro a hs hd hargs;have s0:=hargs 0 _ rfl;clear hargs;refine wp_seq ?_;refine wp_region_list ?_;show wpList _ _ _ [_,_] _ _
 refine tail_op rfl (fun K hK=>?_);have q0:=gd s0;go_simp;clear q0;refine hK _ _ ?_;clear hK K;refine act_put (d:=1) _ hs hd (by decide) [(0,_)] ⟨s0,trivial⟩ rfl ?_;clear hs hd s0;intro a hs hd zl;obtain⟨g,hE⟩:∃B,Is w.heap.size B:=is_self _;generalize hw1:World.alloc w _=w1;have hg:Blk w1 g 37 H.cells:=by rw[← hw1,← hE.out];exact Blk.new w _ _
 have hB1:Below w.heap.size w w1:=by rw[← hw1];exact bz_alloc (bz_refl w) _
 replace hB:=bz_then hB hB1;obtain⟨s1,s0,-⟩:=zl;rw[hE.out]at s1;clear hw1 hB1 hE;refine tail_op rfl (fun K hK=>?_);go_simp;refine hK _ _ ?_;clear hK K;refine act_put (d:=2) _ hs hd (by decide) [(0,_),(1,_)] ⟨s0,s1,trivial⟩ rfl ?_;clear hs hd s0 s1;intro a hs hd zl;obtain⟨z,hE⟩:∃B,Is w1.heap.size B:=is_self _;generalize hw1:World.alloc w1 _=w2;have hz:Blk w2 z 71 #[.int .i64 0,.int .i64 0,.string ⟨#[]⟩,.int .i64 0,.int .i64 0,.int .i64 0,.slice none 0 0,.int .i64 0,.slice none 0 0,.slice none 0 0,.slice none 0 0,.slice none 0 0,.slice none 0 0,.slice none 0 0,.slice none 0 0,.slice none 0 0,.slice none 0 0,.string ⟨#[]⟩]:=by rw[← hw1,← hE.out];exact Blk.new w1 _ _
 have hB1:Below w1.heap.size w1 w2:=by rw[← hw1];exact bz_alloc (bz_refl w1) _
 have hgz:g≠z:=by have:=hg.lt;rw[← hE.out];omega
 have hBz:=Nat.le_trans hB.size (Nat.le_of_eq hE.out);replace hB:=bz_then hB hB1;replace hg:=hg.after hB1;obtain⟨s2,s0,s1,-⟩:=zl;rw[hE.out]at s2;clear hw1 hB1 hE;clear s0;refine wp_seq ?_;have c0:w2.cell? ⟨g,0,none⟩=some (.int .i64 H.vb):=by rw[hg.cell];rfl
 have c1:w2.cell? ⟨g,1,none⟩=some (.int .i64 H.va):=by rw[hg.cell];rfl
 have c2:w2.cell? ⟨g,2,none⟩=some (.string H.ch):=by rw[hg.cell];rfl
 have c3:w2.cell? ⟨g,3,none⟩=some (.int .i64 H.ht):=by rw[hg.cell];rfl
 have c17:w2.cell? ⟨g,17,none⟩=some (.string H.pr):=by rw[hg.cell];rfl
 refine wp_region_list ?_;show wpList _ _ _ [_,_,_,_,_,_,_,_,_,_,_,_,_,_,_,_,_,_] _ _
 refine tail_op rfl (fun K hK=>?_);have q1:=gd s1;go_simp;clear q1;refine hK _ _ ?_;clear hK K;refine act_put (d:=3) _ hs hd (by decide) [(1,_),(2,_)] ⟨s1,s2,trivial⟩ rfl ?_;clear hs hd s1 s2;intro a hs hd zl;refine wn 8 ?_;clear hs hd zl;intro a hs hd zl;refine tail_op rfl (fun K hK=>?_);have q11:=gL zl 0;have s11:=vL zl 0;refine op_load_part 31 (.tmp 11) rfl g 4 s11 _ _ #[.int .i64 H.sec,.int .i64 H.ns] _ hg (show(4+2:Nat)≤18 by decide) rfl rfl (by kernel_rfl) rfl ?_;clear q11;refine hK _ _ (tP hs hd zl ?_);clear hK K hs hd zl s11;intro a hs hd zl;refine wn 1 ?_;clear hs hd zl;intro a hs hd zl;refine tail_op rfl (fun K hK=>?_);have q13:=gL zl 0;have s13:=vL zl 0;refine op_load_part 34 (.tmp 13) rfl g 6 s13 _ _ #[H.bh.v,.int .i64 H.bt,H.bp.v] _ hg (show(6+3:Nat)≤18 by decide) rfl rfl (by kernel_rfl) rfl ?_;clear q13;refine hK _ _ (tP hs hd zl ?_);clear hK K hs hd zl s13;intro a hs hd zl;refine wn 1 ?_;clear hs hd zl;intro a hs hd zl;refine tail_op rfl (fun K hK=>?_);have q15:=gL zl 0;have s15:=vL zl 0;refine op_load_part 35 (.tmp 15) rfl g 9 s15 _ _ #[(H.hh 0).v,(H.hh 1).v,(H.hh 2).v,(H.hh 3).v,(H.hh 4).v,(H.hh 5).v,(H.hh 6).v,(H.hh 7).v] _ hg (show(9+8:Nat)≤18 by decide) rfl rfl (by kernel_rfl) rfl ?_;clear q15;refine hK _ _ (tP hs hd zl ?_);clear hK K hs hd zl s15;intro a hs hd zl;refine wn 2 ?_;clear hs hd zl;intro a hs hd zl;refine tail_op rfl (fun K hK=>?_);have q4:=gL zl 14;have q6:=gL zl 12;have q8:=gL zl 10;have q10:=gL zl 8;have q12:=gL zl 6;have q14:=gL zl 4;have q16:=gL zl 2;have q18:=gL zl 0;unfold HSl.v at q14 q16;go_simp;clear q4 q6 q8 q10 q12 q14 q16 q18;refine hK _ _ (tP hs hd zl ?_);clear hK K hs hd zl;intro a hs hd zl;refine tail_op rfl (fun K hK=>?_);have q2:=gL zl 18;have q19:=gL zl 0;have s2:=vL zl 18;have s19:=vL zl 0;refine op_store_row 71 (.tmp 2) (.tmp 19) rfl z s2 H.cells s19 71 _ hz rfl (by kernel_rfl) H.one ?_;clear q2 q19;refine hK _ _ ?_;clear hK K;change wpList _ _ _ _ a _;have hz2:=hz.setRow H.cells;replace hB:=below_setRow hB hBz H.cells;generalize World.setRow _ _ _=w4 at hz2 hB⊢;clear s19;refine wp_ret ?_;exact end_row rfl z s2 hd.out 71 _ _ hz2 Tryz.underlying71 rfl (by kernel_rfl) ⟨rfl,hB⟩
theorem c_header(H:Hd)(w:World)(hn:H.num):
  Calls Tryz.prog 54 #[.agg H.cells] w fun e w'=>∃g ps,e=.returned (.pointer (some ⟨g,0,none⟩))∧Blk w' g 152 (H.pcells ps)∧ps.ok w'∧Is ps.l (bytesOf H.pr)∧w.heap.size≤g∧Below w.heap.size w w':=by
 suffices h:∀w0,Below w0.heap.size w0 w→Calls Tryz.prog 54 #[.agg H.cells] w fun e w'=>∃g ps,e=.returned (.pointer (some ⟨g,0,none⟩))∧Blk w' g 152 (H.pcells ps)∧ps.ok w'∧Is ps.l (bytesOf H.pr)∧w0.heap.size≤g∧Below w0.heap.size w0 w' from h w (bz_refl w)
 intro w0 hB;refine enter_abs Tryz.func54 rfl 49 rfl (by simp) ?_;intro a hs hd hargs;have s0:=hargs 0 _ rfl;clear hargs;refine wp_seq ?_;refine wp_region_list ?_;show wpList _ _ _ [_,_] _ _
 refine tail_op rfl (fun K hK=>?_);have q0:=gd s0;go_simp;clear q0;refine hK _ _ ?_;clear hK K;refine act_put (d:=1) _ hs hd (by decide) [(0,_)] ⟨s0,trivial⟩ rfl ?_;clear hs hd s0;intro a hs hd zl;obtain⟨g,hE⟩:∃B,Is w.heap.size B:=is_self _;generalize hw1:World.alloc w _=w1;have hg:Blk w1 g 37 H.cells:=by rw[← hw1,← hE.out];exact Blk.new w _ _
 have hB1:Below w.heap.size w w1:=by rw[← hw1];exact bz_alloc (bz_refl w) _
 replace hB:=bz_then hB hB1;obtain⟨s1,s0,-⟩:=zl;rw[hE.out]at s1;clear hw1 hB1 hE;refine tail_op rfl (fun K hK=>?_);go_simp;refine hK _ _ ?_;clear hK K;refine act_put (d:=2) _ hs hd (by decide) [(0,_),(1,_)] ⟨s0,s1,trivial⟩ rfl ?_;clear hs hd s0 s1;intro a hs hd zl;refine wp_seq ?_;have c0:w1.cell? ⟨g,0,none⟩=some (.int .i64 H.vb):=by rw[hg.cell];rfl
 have c1:w1.cell? ⟨g,1,none⟩=some (.int .i64 H.va):=by rw[hg.cell];rfl
 have c2:w1.cell? ⟨g,2,none⟩=some (.string H.ch):=by rw[hg.cell];rfl
 have c3:w1.cell? ⟨g,3,none⟩=some (.int .i64 H.ht):=by rw[hg.cell];rfl
 have c9:w1.cell? ⟨g,9,none⟩=some (.slice (H.hh 0).A (H.hh 0).l.length (H.hh 0).c):=by rw[hg.cell];rfl
 have c10:w1.cell? ⟨g,10,none⟩=some (.slice (H.hh 1).A (H.hh 1).l.length (H.hh 1).c):=by rw[hg.cell];rfl
 have c11:w1.cell? ⟨g,11,none⟩=some (.slice (H.hh 2).A (H.hh 2).l.length (H.hh 2).c):=by rw[hg.cell];rfl
 have c12:w1.cell? ⟨g,12,none⟩=some (.slice (H.hh 3).A (H.hh 3).l.length (H.hh 3).c):=by rw[hg.cell];rfl
 have c13:w1.cell? ⟨g,13,none⟩=some (.slice (H.hh 4).A (H.hh 4).l.length (H.hh 4).c):=by rw[hg.cell];rfl
 have c14:w1.cell? ⟨g,14,none⟩=some (.slice (H.hh 5).A (H.hh 5).l.length (H.hh 5).c):=by rw[hg.cell];rfl
 have c15:w1.cell? ⟨g,15,none⟩=some (.slice (H.hh 6).A (H.hh 6).l.length (H.hh 6).c):=by rw[hg.cell];rfl
 have c16:w1.cell? ⟨g,16,none⟩=some (.slice (H.hh 7).A (H.hh 7).l.length (H.hh 7).c):=by rw[hg.cell];rfl
 have c17:w1.cell? ⟨g,17,none⟩=some (.string H.pr):=by rw[hg.cell];rfl
 have n1:=hn.vb;have n2:=hn.va;have n4:=hn.sec;have n5:=hn.ns;have n6:=hn.bt;have np:=hn.pr;have e1:IntKind.u64.wrap H.vb=H.vb:=IntWalk.u64_in _ (by omega);have e2:IntKind.u64.wrap H.va=H.va:=IntWalk.u64_in _ (by omega);have kc:=fun(w:World)=>Lib.run_convert_string_bytes (P:=Tryz.prog) w 9 32 5 (H.pr) Tryz.underlying9 Tryz.underlying32 Tryz.underlying5
 obtain⟨s2,-,s1,-⟩:=zl;refine fl2 (F:=[(1,_),(2,_)]) [FItem.eq 3 _,FItem.eq 4 _,FItem.eq 5 _,FItem.eq 6 _,FItem.eq 7 _,FItem.eq 8 _,FItem.eq 9 _,FItem.eq 10 _,FItem.eq 11 _,FItem.eq 12 _,FItem.eq 13 _,FItem.eq 14 _,FItem.eq 15 (.agg #[.int .i64 H.sec,.int .i64 H.ns]),FItem.eq 16 (.agg #[.int .i64 (H.sec+62135596800),.int .i32 H.ns]),FItem.eq 17 _,FItem.eq 18 (.agg #[H.bh.v,.int .i64 H.bt,H.bp.v]),FItem.eq 19 (.agg #[H.bh.v,.int .u32 H.bt,H.bp.v]),FItem.eq 20 _,FItem.eq 21 _,FItem.eq 22 _,FItem.eq 23 _,FItem.eq 24 _,FItem.eq 25 _,FItem.eq 26 _,FItem.eq 27 _,FItem.eq 28 _,FItem.eq 29 _,FItem.eq 30 _,FItem.eq 31 _,FItem.eq 32 _,FItem.eq 33 _,FItem.eq 34 _,FItem.eq 35 _,FItem.eq 36 _,FItem.eq 37 _,FItem.eq 38 _,FItem.eq 39 _,FItem.eq 40 _,FItem.eq 41 _,FItem.eq 42 _,FItem.eq 43 _,FItem.eq 44 _,FItem.eq 45 _,FItem.bs 46 0 (bytesOf H.pr)] 44 hs hd ⟨s1,s2,trivial⟩
  ⟨sP bq,
   sP bq,
   sP bq,
   sP bq,
   sP bq,
   sP bq,
   sP bq,
   sP bq,
   sP bq,
   sP bq,
   sP bq,
   sP bq,
   (stp rfl fun a u hb hs hl hd K hK=>by
    have s14:=gD hd 11;have c0:=cell_up hb c0;have c1:=cell_up hb c1;have c2:=cell_up hb c2;have c3:=cell_up hb c3;have c9:=cell_up hb c9;have c10:=cell_up hb c10;have c11:=cell_up hb c11;have c12:=cell_up hb c12;have c13:=cell_up hb c13;have c14:=cell_up hb c14;have c15:=cell_up hb c15;have c16:=cell_up hb c16;have c17:=cell_up hb c17;clear hd;refine op_load_part 31 (.tmp 14) rfl g 4 (gu s14) _ _ #[.int .i64 H.sec,.int .i64 H.ns] _ (hg.after hb) (show(4+2:Nat)≤18 by decide) rfl rfl (by kernel_rfl) rfl ?_;exact kE hK hs),
   (stp rfl fun a u hb hs hl hd K hK=>by
    have s15:=gD hd 12;have c0:=cell_up hb c0;have c1:=cell_up hb c1;have c2:=cell_up hb c2;have c3:=cell_up hb c3;have c9:=cell_up hb c9;have c10:=cell_up hb c10;have c11:=cell_up hb c11;have c12:=cell_up hb c12;have c13:=cell_up hb c13;have c14:=cell_up hb c14;have c15:=cell_up hb c15;have c16:=cell_up hb c16;have c17:=cell_up hb c17;clear hd;go_simp;refine(c_moment H.sec H.ns _ (by omega) (by omega)).mono ?_;rintro e w3 ⟨rfl,hb2⟩;exact hK _ _ hb2 (eq_put hs (by decide))),
   sP bq,
   (stp rfl fun a u hb hs hl hd K hK=>by
    have s17:=gD hd 14;have c0:=cell_up hb c0;have c1:=cell_up hb c1;have c2:=cell_up hb c2;have c3:=cell_up hb c3;have c9:=cell_up hb c9;have c10:=cell_up hb c10;have c11:=cell_up hb c11;have c12:=cell_up hb c12;have c13:=cell_up hb c13;have c14:=cell_up hb c14;have c15:=cell_up hb c15;have c16:=cell_up hb c16;have c17:=cell_up hb c17;clear hd;refine op_load_part 34 (.tmp 17) rfl g 6 (gu s17) _ _ #[H.bh.v,.int .i64 H.bt,H.bp.v] _ (hg.after hb) (show(6+3:Nat)≤18 by decide) rfl rfl (by kernel_rfl) rfl ?_;exact kE hK hs),
   (stp rfl fun a u hb hs hl hd K hK=>by
    have s18:=gD hd 15;have c0:=cell_up hb c0;have c1:=cell_up hb c1;have c2:=cell_up hb c2;have c3:=cell_up hb c3;have c9:=cell_up hb c9;have c10:=cell_up hb c10;have c11:=cell_up hb c11;have c12:=cell_up hb c12;have c13:=cell_up hb c13;have c14:=cell_up hb c14;have c15:=cell_up hb c15;have c16:=cell_up hb c16;have c17:=cell_up hb c17;clear hd;go_simp;refine(c_block H.bh H.bp H.bt _ (by omega)).mono ?_;rintro e w3 ⟨rfl,hb2⟩;exact hK _ _ hb2 (eq_put hs (by decide))),
   sP bq,
   sP bq,
   sP bq,
   sP bq,
   sP bq,
   sP bq,
   sP bq,
   sP bq,
   sP bq,
   sP bq,
   sP bq,
   sP bq,
   sP bq,
   sP bq,
   sP bq,
   sP bq,
   sP bq,
   sP bq,
   sP bq,
   sP bq,
   sP bq,
   sP bq,
   sP bq,
   sP bq,
   sP bq,
   sP bq,
   (stp rfl fun a u hb hs hl hd K hK=>by
    have s45:=gD hd 42;have c0:=cell_up hb c0;have c1:=cell_up hb c1;have c2:=cell_up hb c2;have c3:=cell_up hb c3;have c9:=cell_up hb c9;have c10:=cell_up hb c10;have c11:=cell_up hb c11;have c12:=cell_up hb c12;have c13:=cell_up hb c13;have c14:=cell_up hb c14;have c15:=cell_up hb c15;have c16:=cell_up hb c16;have c17:=cell_up hb c17;clear hd;go_simp;exact hK _ _ (bz_bytes (bz_refl _) _ _) (bs_put hs (by decide) (conv_at _ _ _))),
   trivial⟩ ?_
 clear hs hd s1 s2;intro a w hb hs hd zl hh;replace zl:=lH hh 6 zl;replace zl:=lH hh 8 zl;replace zl:=lH hh 10 zl;replace zl:=lH hh 13 zl;replace zl:=lH hh 16 zl;replace zl:=lH hh 19 zl;replace zl:=lH hh 22 zl;replace zl:=lH hh 25 zl;replace zl:=lH hh 28 zl;replace zl:=lH hh 31 zl;replace zl:=lH hh 34 zl;replace zl:=lH hh 37 zl;replace zl:=lH hh 40 zl;have i46:=FItem.bs_holds.1 (hold_get hh 43);obtain⟨v46,s46⟩:∃v,a.tmps.getD 46 undef=v:=⟨_,rfl⟩;rw[s46]at i46;clear hh;replace hg:=hg.after hb;replace c0:=cell_up hb c0;replace c1:=cell_up hb c1;replace c2:=cell_up hb c2;replace c3:=cell_up hb c3;replace c9:=cell_up hb c9;replace c10:=cell_up hb c10;replace c11:=cell_up hb c11;replace c12:=cell_up hb c12;replace c13:=cell_up hb c13;replace c14:=cell_up hb c14;replace c15:=cell_up hb c15;replace c16:=cell_up hb c16;replace c17:=cell_up hb c17;replace hB:=bz_then hB hb;clear hb;show wpList _ _ _ [_,_,_] _ _
 refine tail_op rfl (fun K hK=>?_);have q9:=gL zl 12;have q11:=gL zl 11;have q13:=gL zl 10;have q16:=gL zl 9;have q19:=gL zl 8;have q22:=gL zl 7;have q25:=gL zl 6;have q28:=gL zl 5;have q31:=gL zl 4;have q34:=gL zl 3;have q37:=gL zl 2;have q40:=gL zl 1;have q43:=gL zl 0;have q46:=gd s46;obtain⟨ps,hv46,hps,hpl⟩:=i46.sl (bytesOf_bytes _) (by rw[bytesOf_length];omega);subst hv46;unfold HSl.v at q19 q46;go_simp;clear q9 q11 q13 q16 q19 q22 q25 q28 q31 q34 q37 q40 q43 q46;refine hK _ _ ?_;clear hK K;obtain⟨s43,s40,s37,s34,s31,s28,s25,s22,s19,s16,s13,s11,s9,-,s2,-⟩:=zl;refine act_put (d:=47) _ hs hd (by decide) [(2,_),(9,_),(11,_),(13,_),(16,_),(19,_),(22,_),(25,_),(28,_),(31,_),(34,_),(37,_),(40,_),(43,_),(46,_)] ⟨s2,s9,s11,s13,s16,s19,s22,s25,s28,s31,s34,s37,s40,s43,s46,trivial⟩ rfl ?_;clear hs hd s2 s9 s11 s13 s16 s19 s22 s25 s28 s31 s34 s37 s40 s43 s46;intro a hs hd zl;refine tail_op rfl (fun K hK=>?_);have q47:=gL zl 0;go_simp;clear q47;refine hK _ _ (tP hs hd zl ?_);clear hK K hs hd zl;intro a hs hd zl;obtain⟨g2,hE⟩:∃B,Is w.heap.size B:=is_self _;generalize hw1:World.alloc w _=w1;have hg2:Blk w1 g2 152 (H.pcells ps):=by rw[← hw1,← hE.out];exact Blk.new w _ _
 have hB1:Below w.heap.size w w1:=by rw[← hw1];exact bz_alloc (bz_refl w) _
 have hge:=Nat.le_trans hB.size (Nat.le_of_eq hE.out);replace hB:=bz_then hB hB1;replace hg:=hg.after hB1;replace hps:=hps.after hB1;obtain⟨s48,s47,s2,s9,s11,s13,s16,s19,s22,s25,s28,s31,s34,s37,s40,s43,s46,-⟩:=zl;rw[hE.out]at s48;clear hw1 hB1 hE;refine tail_op rfl (fun K hK=>?_);have q48:=gd s48;go_simp;clear q48;refine hK _ _ ?_;clear hK K;refine act_put (d:=2) _ hs hd (by decide) [(9,_),(11,_),(13,_),(16,_),(19,_),(22,_),(25,_),(28,_),(31,_),(34,_),(37,_),(40,_),(43,_),(46,_),(47,_),(48,_)] ⟨s9,s11,s13,s16,s19,s22,s25,s28,s31,s34,s37,s40,s43,s46,s47,s48,trivial⟩ rfl ?_;clear hs hd s2 s9 s11 s13 s16 s19 s22 s25 s28 s31 s34 s37 s40 s43 s46 s47 s48;intro a hs hd zl;refine wp_ret ?_;exact end_tmp rfl hd (vL zl 0) ⟨_,ps,rfl,hg2,hps,hpl,hge,hB⟩
theorem sLeaves_len(S:List Seat)(k:Nat)(h:k≤S.length):(sLeaves (S.take k)).length=k:=by
 unfold sLeaves;rw[List.length_map,List.length_take];omega
theorem c_SeatSum(S:List Seat)(A0:Option Addr)(c0:Nat)(w:World)(hG:Good S)(hS:SeatsAt w A0 S)(h20:S.length≤20):
  Calls Tryz.prog 26 #[.slice A0 S.length c0] w fun e w'=>∃v,e=.returned v∧BsAt w.heap.size (rootN 20 (sLeaves S)) v w'∧Below w.heap.size w w':=by
 suffices h:∀w0,(SeatsAt w0 A0 S)→Below w0.heap.size w0 w→Calls Tryz.prog 26 #[.slice A0 S.length c0] w fun e w'=>∃v,e=.returned v∧BsAt w0.heap.size (rootN 20 (sLeaves S)) v w'∧Below w0.heap.size w0 w' from h w hS (bz_refl w)
 clear hS;intro w0 hS hB;refine enter_abs Tryz.func26 rfl 28 rfl (by simp) ?_;intro a hs hd hargs;have s0:=hargs 0 _ rfl;clear hargs;refine wp_seq ?_;refine wp_region_list ?_;show wpList _ _ _ [_] _ _
 refine tail_op rfl (fun K hK=>?_);go_simp;refine hK _ _ ?_;clear hK K;refine act_put (d:=2) _ hs hd (by decide) [(0,_)] ⟨s0,trivial⟩ rfl ?_;clear hs hd s0;intro a hs hd zl;refine wn 4 ?_;clear hs hd zl;intro a hs hd zl;refine wp_block ?_;obtain⟨s8,s7,s6,s3,-,-,-⟩:=zl;refine wp_loop (fun a w=>∃(k:Nat) (vs:List Value) (A:Option Addr) (c:Nat),SzIs a 28∧DfNil a∧LiveAll [(3,.slice A vs.length c),(6,.slice A0 S.length c0),(7,.int .i64 ((S.length:Nat):Int)),(8,.int .i64 ((k:Nat):Int))] a∧(k≤S.length)∧(Below w0.heap.size w0 w)∧(Leaves w0.heap.size w A c vs (sLeaves (S.take k))))
  (fun a _=>S.length-(intOf (a.tmps.getD 8 undef)).toNat) ⟨0,[],none,0,hs,hd,⟨s3,s6,s7,s8,trivial⟩,Nat.zero_le _,hB,Leaves.nil _ _⟩ ?_
 clear hs hd s3 s6 s7 s8;rintro a w ⟨k,vs,A,c,hs,hd,⟨s3,s6,s7,s8,-⟩,hk,hB,hL⟩;have hm:(intOf (a.tmps.getD 8 undef)).toNat=k:=by rw[s8];simp[intOf]
 rw[hm];clear hm;have HVL:=Is.hid (hL.length.trans (sLeaves_len S k hk));by_cases hlt:k<S.length
 ·have e1:decide (k<S.length)=true:=decide_eq_true hlt;have e2:decide ((k:Int)<(S.length:Int))=true:=decide_eq_true (by omega);obtain⟨s,hsk⟩:∃s,S[k]?=some s:=⟨S[k],List.getElem?_eq_getElem hlt⟩;have hgd:=hG.get hsk;have HLS:=Is.hid (sLeaves_succ hsk);obtain⟨b0,o0,hA0,hb0,hcells⟩:=(hS.after hB).at_ (by omega);have hck:=hcells k s hsk;subst hA0;have hkS:k<S.length:=hlt;have ew:IntKind.i64.wrap ((k:Int)+1)=((k+1:Nat):Int):=by rw[IntWalk.i64_in _ (by omega)];omega
  have hg1:=hgd.k;have hg2:=hgd.p;have kc:=fun(w:World)=>Lib.run_convert_string_bytes (P:=Tryz.prog) w 9 32 5 (s.k) Tryz.underlying9 Tryz.underlying32 Tryz.underlying5
  clear hcells hsk;refine wp_seq ?_;refine wp_region_list ?_;show wpList _ _ _ [_] _ _
  refine tail_op rfl (fun K hK=>?_);have q7:=gd s7;have q8:=gd s8;go_simp;clear q7 q8;refine hK _ _ ?_;clear hK K;refine act_put (d:=9) _ hs hd (by decide) [(3,_),(6,_),(7,_),(8,_)] ⟨s3,s6,s7,s8,trivial⟩ rfl ?_;clear hs hd s3 s6 s7 s8;intro a hs hd zl;refine wn 1 ?_;clear hs hd zl;intro a hs hd zl;refine tail_op rfl (fun K hK=>?_);have q10:=gL zl 0;have s10:=vL zl 0;refine op_load_cells 48 (.tmp 10) rfl b0 _ s10 s.cells _ hck rfl rfl (by kernel_rfl) ?_;clear q10;refine hK _ _ (tP hs hd zl ?_);clear hK K hs hd zl s10;intro a hs hd zl;refine tail_op rfl (fun K hK=>?_);go_simp;refine hK _ _ (tP hs hd zl ?_);clear hK K hs hd zl;intro a hs hd zl;refine tail_op rfl (fun K hK=>?_);have q5:=gL zl 0;have q11:=gL zl 1;have s5:=vL zl 0;have s11:=vL zl 1;refine op_store_row 48 (.tmp 5) (.tmp 11) rfl w.heap.size s5 _ s11 48 _ (Blk.new w _ _) rfl (by kernel_rfl) (seat_one s) ?_;clear q5 q11;refine hK _ _ ?_;clear hK K;change wpList _ _ _ _ a _;rw[setRow_alloc_at _ _ _ _ _ rfl];obtain⟨g5,hE⟩:∃B,Is w.heap.size B:=is_self _;generalize hw1:World.alloc w _=w1;have hg5:Blk w1 g5 48 s.cells.toArray:=by rw[← hw1,← hE.out];exact Blk.new w _ _
  have hB1:Below w.heap.size w w1:=by rw[← hw1];exact bz_alloc (bz_refl w) _
  replace hB:=bz_then hB hB1;replace hL:=hL.after hB1;clear s5 s11;obtain⟨s5,s11,s10,s9,s3,s6,s7,s8,-⟩:=zl;rw[hE.out]at s5;clear hw1 hB1 hE;clear hck;clear s9 s10 s11;have c1:w1.cell? ⟨g5,1,none⟩=some (.string s.k):=by rw[hg5.cell];rfl
  have c2:w1.cell? ⟨g5,2,none⟩=some (.int .i64 s.p):=by rw[hg5.cell];rfl
  obtain⟨B5,hB5⟩:∃B,Is w1.heap.size B:=is_self _;have hBu:∀u,Below w1.heap.size w1 u→B5≤u.heap.size:=fun u h=>by rw[← hB5.out];exact h.size
  have hAB:∀k,blkOf A=some k→k<B5:=fun k hk=>by rw[← hB5.out];exact(hL.own.blk_lt k hk).2
  clear hg5;refine fl2 (F:=[(3,_),(5,_),(6,_),(7,_),(8,_)]) [.eq 12 _,.eq 13 _,.eq 14 _,FItem.bs 15 0 (bytesOf s.k),FItem.bs 16 0 (withinL 1 (bytesOf s.k)),FItem.bs 17 0 (withinL 1 (withinL 1 (bytesOf s.k))),.eq 18 _,.eq 19 _,FItem.bs 20 0 (numL 2 s.p.toNat),FItem.ls 21 ([withinL 1 (withinL 1 (bytesOf s.k)),numL 2 s.p.toNat]),FItem.bs 22 B5 s.leaf,FItem.one 23 B5 (s.leaf)] 12 hs hd ⟨s3,s5,s6,s7,s8,trivial⟩
   ⟨sP bq,
    sP bq,
    sP bq,
    (stp rfl fun a u hb hs hl hd K hK=>by
     have s14:=gD hd 2;have c1:=cell_up hb c1;have c2:=cell_up hb c2;clear hd;go_simp;exact hK _ _ (bz_bytes (bz_refl _) _ _) (bs_put hs (by decide) (conv_at _ _ _))),
    (stp rfl fun a u hb hs hl hd K hK=>by
     have i15:=FItem.bs_holds.1 (dep_get0 hd 3 (by kernel_rfl));obtain⟨v15,e15⟩:∃v,Is (a.tmps.getD 15 undef) v:=is_self _;rw[e15.out]at i15;have s15:=gd e15.out;have c1:=cell_up hb c1;have c2:=cell_up hb c2;clear hd;obtain⟨x15,A15,k15,hx15,rfl,f15,n15,b15,-⟩:=i15;go_simp;refine(c_within 1 A15 k15 x15 _ (by decide) b15 (by rw[hx15.out,bytesOf_length];omega)).mono ?_;intro e w3 h;rw[hx15.out]at h;obtain⟨v,rfl,hv,hb2⟩:=h.at0;exact hK _ _ hb2 (bs_put hs (by decide) hv)),
    (stp rfl fun a u hb hs hl hd K hK=>by
     have i16:=FItem.bs_holds.1 (dep_get0 hd 4 (by kernel_rfl));obtain⟨v16,e16⟩:∃v,Is (a.tmps.getD 16 undef) v:=is_self _;rw[e16.out]at i16;have s16:=gd e16.out;have c1:=cell_up hb c1;have c2:=cell_up hb c2;clear hd;obtain⟨x16,A16,k16,hx16,rfl,f16,n16,b16,-⟩:=i16;go_simp;refine(c_within 1 A16 k16 x16 _ (by decide) b16 (by rw[hx16.out];have:=withinL_len 1 (bytesOf s.k) (by rw[bytesOf_length];omega);rw[bytesOf_length]at this;omega)).mono ?_;intro e w3 h;rw[hx16.out]at h;obtain⟨v,rfl,hv,hb2⟩:=h.at0;exact hK _ _ hb2 (bs_put hs (by decide) hv)),
    sP bq,
    sP bq,
    (stp rfl fun a u hb hs hl hd K hK=>by
     have s19:=gD hd 7;have c1:=cell_up hb c1;have c2:=cell_up hb c2;clear hd;go_simp;refine(c_number 2 s.p _ (by decide) (by omega) (by omega)).mono ?_;intro e w3 h;obtain⟨v,rfl,hv,hb2⟩:=h.at0;exact hK _ _ hb2 (bs_put hs (by decide) hv)),
    (stp rfl fun a u hb hs hl hd K hK=>by
     have i17:=FItem.bs_holds.1 (dep_get0 hd 5 (by kernel_rfl));obtain⟨v17,e17⟩:∃v,Is (a.tmps.getD 17 undef) v:=is_self _;rw[e17.out]at i17;have s17:=gd e17.out;have i20:=FItem.bs_holds.1 (dep_get0 hd 8 (by kernel_rfl));obtain⟨v20,e20⟩:∃v,Is (a.tmps.getD 20 undef) v:=is_self _;rw[e20.out]at i20;have s20:=gd e20.out;have c1:=cell_up hb c1;have c2:=cell_up hb c2;clear hd;have j17:=i17;obtain⟨x17,A17,k17,-,rfl,-,-,-,-⟩:=j17;have j20:=i20;obtain⟨x20,A20,k20,-,rfl,-,-,-,-⟩:=j20;go_simp;exact hK _ _ (bz_alloc (bz_refl _) _) (ls_put hs (by decide) (LsAt.new (vs:=[.slice A17 x17.length k17,.slice A20 x20.length k20]) ⟨i17,i20,trivial⟩ (by simp)))),
    (stp rfl fun a u hb hs hl hd K hK=>by
     have i21:=FItem.ls_holds.1 (dep_get0 hd 9 (by kernel_rfl));obtain⟨v21,e21⟩:∃v,Is (a.tmps.getD 21 undef) v:=is_self _;rw[e21.out]at i21;have s21:=gd e21.out;have c1:=cell_up hb c1;have c2:=cell_up hb c2;clear hd;go_simp;refine(i21.joined (by simp) (by rw[flat2];have:=leaf_len hgd;unfold Seat.leaf at this;omega)).mono ?_;intro e w3 h;rw[flat2]at h;obtain⟨v,rfl,hv,hb2⟩:=h.read.at_ (hBu _ hb);exact hK _ _ hb2 (bs_put hs (by decide) hv)),
    (stp rfl fun a u hb hs hl hd K hK=>by
     have i22:=FItem.bs_holds.1 (dep_get0 hd 10 (by kernel_rfl));obtain⟨v22,e22⟩:∃v,Is (a.tmps.getD 22 undef) v:=is_self _;rw[e22.out]at i22;have s22:=gd e22.out;have c1:=cell_up hb c1;have c2:=cell_up hb c2;clear hd;have j22:=i22;obtain⟨x22,A22,k22,-,rfl,-,-,-,-⟩:=j22;go_simp;exact hK _ _ (bz_alloc (bz_refl _) _) (one_put hs (by decide) (OneAt.new i22))),
    trivial⟩ ?_
  clear hs hd s3 s5 s6 s7 s8;intro a w hb hs hd zl hh;replace zl:=lH hh 0 zl;have i23:=FItem.one_holds.1 (hold_get hh 11);obtain⟨v23,s23⟩:∃v,a.tmps.getD 23 undef=v:=⟨_,rfl⟩;rw[s23]at i23;clear hh;replace hL:=hL.after hb;replace c1:=cell_up hb c1;replace c2:=cell_up hb c2;replace hB:=bz_then hB hb;clear hb;show wpList _ _ _ [_,_] _ _
  refine tail_op rfl (fun K hK=>?_);have q12:=gL zl 0;have q23:=gd s23;obtain⟨g2,c2,u2,rfl,hg2,i22⟩:=i23;have s12:=vL zl 0;refine op_app_leaf (.tmp 12) (.tmp 23) rfl s12 s23 hL hg2 i22 hAB (by have:=HVL.out;omega) hB.size ?_;intro vs' A' c' w4 hL' hbel _;clear q12 q23;refine hK _ _ ?_;clear hK K;clear s12;obtain⟨s12,s3,-,s6,s7,s8,-⟩:=zl;refine act_put (d:=24) _ hs hd (by decide) [(3,_),(6,_),(7,_),(8,_),(12,_),(23,_)] ⟨s3,s6,s7,s8,s12,s23,trivial⟩ rfl ?_;clear hs hd s3 s6 s7 s8 s12 s23;intro a hs hd zl;replace hB:=hB.trans hbel;clear hbel hL hg2 i22;have hL:=hL';refine tail_op rfl (fun K hK=>?_);have q24:=gL zl 0;go_simp;clear q24;refine hK _ _ ?_;clear hK K;obtain⟨s24,s3,s6,s7,s8,s12,s23,-⟩:=zl;refine act_put (d:=3) _ hs hd (by decide) [(6,_),(7,_),(8,_),(12,_),(23,_),(24,_)] ⟨s6,s7,s8,s12,s23,s24,trivial⟩ rfl ?_;clear hs hd s3 s6 s7 s8 s12 s23 s24;intro a hs hd zl;refine wn 1 ?_;clear hs hd zl;intro a hs hd zl;refine tail_op rfl (fun K hK=>?_);have q25:=gL zl 0;go_simp;clear q25;refine hK _ _ ?_;clear hK K;obtain⟨s25,s3,s6,s7,s8,-,-,-,-⟩:=zl;refine act_put (d:=8) _ hs hd (by decide) [(3,_),(6,_),(7,_),(25,_)] ⟨s3,s6,s7,s25,trivial⟩ rfl ?_;clear hs hd s3 s6 s7 s8 s25;intro a hs hd zl;obtain⟨s8,s3,s6,s7,-,-⟩:=zl;refine⟨⟨k+1,_,_,_,hs,hd,⟨s3,s6,s7,s8,trivial⟩,hlt,hB,(by rw[HLS.out];exact hL)⟩,?_⟩;rw[s8];simp[intOf];omega
 obtain rfl:k=S.length:=by omega
 have e1:decide (S.length<S.length)=false:=decide_eq_false (by omega);rw[List.take_of_length_le (Nat.le_refl _)]at hL;refine wp_seq ?_;refine wp_region_list ?_;show wpList _ _ _ [_] _ _
 refine tail_op rfl (fun K hK=>?_);have q7:=gd s7;have q8:=gd s8;go_simp;clear q7 q8;refine hK _ _ ?_;clear hK K;refine act_put (d:=9) _ hs hd (by decide) [(3,_),(6,_),(7,_),(8,_)] ⟨s3,s6,s7,s8,trivial⟩ rfl ?_;clear hs hd s3 s6 s7 s8;intro a hs hd zl;refine wp_seq ?_;refine wp_cond_false (vL zl 0) ?_;refine wp_exit ?_;repeat refine then_exit ?_
 refine inBlock_exit ?_;have hLs:=hL.ls0;have hcp:=hL.own.cap;have hvl:vs.length=(sLeaves S).length:=hL.length;have hS20:(sLeaves S).length≤20:=by unfold sLeaves;rw[List.length_map];exact h20
 obtain⟨s9,s3,-,-,-,-⟩:=zl;rw[hvl]at s3 hcp;refine wp_seq ?_;refine wp_region_list ?_;show wpList _ _ _ [_,_,_] _ _
 refine tail_op rfl (fun K hK=>?_);have q3:=gd s3;go_simp;clear q3;refine hK _ _ ?_;clear hK K;refine act_put (d:=26) _ hs hd (by decide) [(3,_),(9,_)] ⟨s3,s9,trivial⟩ rfl ?_;clear hs hd s3 s9;intro a hs hd zl;refine tail_op rfl (fun K hK=>?_);have q26:=gL zl 0;go_simp;refine(c_specRoot 20 (sLeaves S) (sLeaves S).length A c _ rfl hS20 hS20 hcp hLs (sLeaves_small hG) (by decide)).mono ?_;rintro e w3 ⟨v,rfl,hv,hb2⟩;clear q26;refine hK _ _ (tP hs hd zl ?_);clear hK K hs hd zl;intro a hs hd zl;replace hv:=hv.less hB.size;replace hB:=bz_then hB hb2;refine wn 1 ?_;clear hs hd zl;intro a hs hd zl;refine wp_ret ?_;exact end_tmp rfl hd (vL zl 0) ⟨v,rfl,hv,hB⟩
def mkH(ch:ByteArray)(ht sec ns:Int)(bh bp:HSl)(hh:Nat→HSl)(pr:ByteArray):Hd:=⟨11,0,ch,ht,sec,ns,bh,1,bp,hh,pr⟩
def updH(hh:Nat→HSl)(k:Nat)(s:HSl):Nat→HSl:=fun i=>if i=k then s else hh i
theorem updH_at(hh:Nat→HSl)(k:Nat)(s:HSl):updH hh k s k=s:=if_pos rfl
theorem updH_ne(hh:Nat→HSl){k i:Nat}(s:HSl)(h:i≠k):updH hh k s i=hh i:=if_neg h
theorem mkH_set(ch:ByteArray)(ht sec ns:Int)(bh bp:HSl)(hh:Nat→HSl)(pr:ByteArray)(k:Nat)(hk:k<8)(s:HSl):
  (mkH ch ht sec ns bh bp hh pr).cells.setIfInBounds (9+k) s.v=(mkH ch ht sec ns bh bp (updH hh k s) pr).cells:=by
 rcases(by omega:k=0∨k=1∨k=2∨k=3∨k=4∨k=5∨k=6∨k=7)with rfl|rfl|rfl|rfl|rfl|rfl|rfl|rfl <;> rfl
theorem mkH_cell(ch:ByteArray)(ht sec ns:Int)(bh bp:HSl)(hh:Nat→HSl)(pr:ByteArray)(k:Nat)(hk:k<8):(mkH ch ht sec ns bh bp hh pr).cells[9+k]?=some (hh k).v:=by
 rcases(by omega:k=0∨k=1∨k=2∨k=3∨k=4∨k=5∨k=6∨k=7)with rfl|rfl|rfl|rfl|rfl|rfl|rfl|rfl <;> rfl
structure HSl.far(s:HSl)(w:World)(z g:Nat):Prop where
 ok:s.ok w
 ne:∀k,blkOf s.A=some k→k≠z∧k≠g
theorem HSl.far.after{s:HSl}{w w':World}{z g:Nat}(h:s.far w z g)(hb:Below w.heap.size w w'):s.far w' z g:=⟨h.ok.after hb,h.ne⟩
theorem HSl.ok.gb{s:HSl}{w w':World}{g:Nat}(h:s.ok w)(hg:w.grownBy w' (some g))(hn:∀k,blkOf s.A=some k→k≠g):s.ok w':=
 ⟨h.bs.grown hg (fun _ e=>by
  cases hA:blkOf s.A with
  |none=>rw[hA]at e;cases e
  |some k=>rw[hA]at e;injection e with e;exact hn k hA e),h.fm,h.cap,h.b8,h.len,fun k hk=>Nat.lt_of_lt_of_le (h.blk k hk) hg.size⟩
theorem HSl.far.gbz{s:HSl}{w w':World}{z g:Nat}(h:s.far w z g)(hg:w.grownBy w' (some z)):s.far w' z g:=⟨h.ok.gb hg fun k hk=>(h.ne k hk).1,h.ne⟩
theorem HSl.far.gbg{s:HSl}{w w':World}{z g:Nat}(h:s.far w z g)(hg:w.grownBy w' (some g)):s.far w' z g:=⟨h.ok.gb hg fun k hk=>(h.ne k hk).2,h.ne⟩
theorem HSl.nil_far(w:World)(z g:Nat):HSl.nil.far w z g:=⟨HSl.nil_ok w,fun k hk=>by cases hk⟩
theorem BsAt.far{B z g:Nat}{l:List Int}{v:Value}{w:World}(h:BsAt B l v w)(h8:Bytes l)(hn:l.length≤2200000000)(hz:z<B)(hg:g<B):∃s:HSl,v=s.v∧s.far w z g∧Is s.l l:=by
 obtain⟨l',A,c,h1,h2,h3,h4,h5,h6⟩:=h;have e:l'=l:=h1;subst e;exact⟨⟨A,c,l'⟩,h2,⟨⟨h5,h3,h4,h8,hn,fun k hk=>(h6 k hk).2⟩,fun k hk=>⟨by have:=(h6 k hk).1;omega,by have:=(h6 k hk).1;omega⟩⟩,rfl⟩
theorem BsAt.far2{B z:Nat}{l:List Int}{v:Value}{w:World}(h:BsAt B l v w)(h8:Bytes l)(hn:l.length≤2200000000)(hz:z<B):∃s:HSl,v=s.v∧s.far w z w.heap.size∧Is s.l l:=by
 obtain⟨l',A,c,h1,h2,h3,h4,h5,h6⟩:=h;have e:l'=l:=h1;subst e;exact⟨⟨A,c,l'⟩,h2,⟨⟨h5,h3,h4,h8,hn,fun k hk=>(h6 k hk).2⟩,fun k hk=>⟨by have:=(h6 k hk).1;omega,by have:=(h6 k hk).2;omega⟩⟩,rfl⟩
theorem BsAt.sl2{B:Nat}{l:List Int}{v:Value}{w:World}(h:BsAt B l v w)(h8:Bytes l)(hn:l.length≤2200000000):∃s:HSl,v=s.v∧s.ok w∧Is s.l l∧∀k,blkOf s.A=some k→B≤k:=by
 obtain⟨l',A,c,h1,h2,h3,h4,h5,h6⟩:=h;have e:l'=l:=h1;subst e;exact⟨⟨A,c,l'⟩,h2,⟨h5,h3,h4,h8,hn,fun k hk=>(h6 k hk).2⟩,rfl,fun k hk=>(h6 k hk).1⟩
def Sums(hh:Nat→HSl)(w:World)(z g:Nat):Prop:=∀i,(hh i).far w z g
theorem Sums.after{hh:Nat→HSl}{w w':World}{z g:Nat}(h:Sums hh w z g)(hb:Below w.heap.size w w'):Sums hh w' z g:=fun i=>(h i).after hb
theorem Sums.upd{hh:Nat→HSl}{w w':World}{z g k:Nat}{s:HSl}(h:Sums hh w z g)(hs:s.far w z g)(hg:w.grownBy w' (some g)):Sums (updH hh k s) w' z g:=fun i=>by
 by_cases e:i=k
 ·subst e;rw[updH_at];exact hs.gbg hg
 ·rw[updH_ne _ _ e];exact(h i).gbg hg
def BidAt(B:Nat)(l k:List Int)(v:Value)(w:World):Prop:=∃A c A' c' x y,v=.agg #[.slice A x c,.int .i64 1,.slice A' y c']∧BsAt B l (.slice A x c) w∧BsAt B k (.slice A' y c') w
theorem BidAt.after{B:Nat}{l k:List Int}{v:Value}{w w':World}(h:BidAt B l k v w)(hb:Below w.heap.size w w'):BidAt B l k v w':=by
 obtain⟨A,c,A',c',x,y,h1,h2,h3⟩:=h;exact⟨A,c,A',c',x,y,h1,h2.after hb,h3.after hb⟩
def FItem.bid(t B:Nat)(l k:List Int):FItem:={reads:=[t],fact:=fun vs w=>∃v,vs=[v]∧BidAt B l k v w,keeps:=fun _ _ _ hb ⟨v,h1,h2⟩=>⟨v,h1,h2.after hb⟩}
theorem FItem.bid_holds{t B:Nat}{l k:List Int}{a:Act}{w:World}:(FItem.bid t B l k).holds a w↔BidAt B l k (a.tmps.getD t undef) w:=by
 constructor
 ·rintro⟨v,h1,h2⟩;injection h1 with h1;have h1:a.tmps.getD t undef=v:=h1
  rwa [h1]
 ·exact fun h=>⟨_,rfl,h⟩
theorem bid_put{a:Act}{d B:Nat}{l k:List Int}{v:Value}{w:World}{sz:Nat}(hs:SzIs a sz)(hd:d<sz)(h:BidAt B l k v w):(FItem.bid d B l k).holds (a.put (some d) v) w:=FItem.bid_holds.2 (by rw[put_self a d v (by rw[hs.out];exact hd)];exact h)
theorem not_u8{w:World}{g:Nat}{T:TypeId}{cs:Array Value}{s:HSl}(hs:s.ok w)(hn:0<s.l.length)(hg:Blk w g T cs)(hc:∀(i:Nat) (x:Int),cs[i]?≠some (Value.int .u8 x)):∀k,blkOf s.A=some k→k≠g:=by
 intro k hk e;subst e;obtain⟨b,o,hA,_,h⟩:=hs.bs 0 hn;rw[hA]at hk;injection hk with hk;have hk:b=k:=hk;subst hk;rw[hg.cell]at h;exact hc _ _ h
theorem z_not_u8:∀(i:Nat) (x:Int),(#[.int .i64 0,.int .i64 0,.string ⟨#[]⟩,.int .i64 0,.int .i64 0,.int .i64 0,.slice none 0 0,.int .i64 0,.slice none 0 0,.slice none 0 0,.slice none 0 0,.slice none 0 0,.slice none 0 0,.slice none 0 0,.slice none 0 0,.slice none 0 0,.slice none 0 0,.string ⟨#[]⟩]:Array Value)[i]?≠some (Value.int .u8 x):=by
 intro i x h;rcases(by omega:i=0∨i=1∨i=2∨i=3∨i=4∨i=5∨i=6∨i=7∨i=8∨i=9∨i=10∨i=11∨i=12∨i=13∨i=14∨i=15∨i=16∨i=17∨18≤i)with rfl|rfl|rfl|rfl|rfl|rfl|rfl|rfl|rfl|rfl|rfl|rfl|rfl|rfl|rfl|rfl|rfl|rfl|hi;all_goals first|(simp at h;done)|(rw[Array.getElem?_eq_none (by simpa using hi)]at h;cases h)
def Hd0At(B:Nat)(ch:ByteArray)(ht sec ns:Int)(pr:ByteArray)(l k:List Int)(v:Value)(w:World):Prop:=
 ∃bh bp,v=.agg (mkH ch ht sec ns bh bp (fun _=>HSl.nil) pr).cells∧bh.ok w∧bp.ok w∧Is bh.l l∧Is bp.l k∧(∀k,blkOf bh.A=some k→B≤k)∧∀k,blkOf bp.A=some k→B≤k
theorem Hd0At.after{B:Nat}{ch:ByteArray}{ht sec ns:Int}{pr:ByteArray}{l k:List Int}{v:Value}{w w':World}(h:Hd0At B ch ht sec ns pr l k v w)(hb:Below w.heap.size w w'):Hd0At B ch ht sec ns pr l k v w':=by
 obtain⟨bh,bp,h1,h2,h3,h4⟩:=h;exact⟨bh,bp,h1,h2.after hb,h3.after hb,h4⟩
def FItem.h0(t B:Nat)(ch:ByteArray)(ht sec ns:Int)(pr:ByteArray)(l k:List Int):FItem:={reads:=[t],fact:=fun vs w=>∃v,vs=[v]∧Hd0At B ch ht sec ns pr l k v w,keeps:=fun _ _ _ hb ⟨v,h1,h2⟩=>⟨v,h1,h2.after hb⟩}
theorem FItem.h0_holds{t B:Nat}{ch:ByteArray}{ht sec ns:Int}{pr:ByteArray}{l k:List Int}{a:Act}{w:World}:(FItem.h0 t B ch ht sec ns pr l k).holds a w↔Hd0At B ch ht sec ns pr l k (a.tmps.getD t undef) w:=by
 constructor
 ·rintro⟨v,h1,h2⟩;injection h1 with h1;have h1:a.tmps.getD t undef=v:=h1
  rwa [h1]
 ·exact fun h=>⟨_,rfl,h⟩
theorem h0_put{a:Act}{d B:Nat}{ch:ByteArray}{ht sec ns:Int}{pr:ByteArray}{l k:List Int}{v:Value}{w:World}{sz:Nat}(hs:SzIs a sz)(hd:d<sz)(h:Hd0At B ch ht sec ns pr l k v w):(FItem.h0 d B ch ht sec ns pr l k).holds (a.put (some d) v) w:=FItem.h0_holds.2 (by rw[put_self a d v (by rw[hs.out];exact hd)];exact h)
def PtrB(B:Nat)(T:TypeId)(cs:Array Value)(v:Value)(w:World):Prop:=∃g,v=.pointer (some ⟨g,0,none⟩)∧Blk w g T cs∧B≤g
theorem PtrB.after{B:Nat}{T:TypeId}{cs:Array Value}{v:Value}{w w':World}(h:PtrB B T cs v w)(hb:Below w.heap.size w w'):PtrB B T cs v w':=by
 obtain⟨g,h1,h2,h3⟩:=h;exact⟨g,h1,h2.after hb,h3⟩
def FItem.pb(t B:Nat)(T:TypeId)(cs:Array Value):FItem:={reads:=[t],fact:=fun vs w=>∃v,vs=[v]∧PtrB B T cs v w,keeps:=fun _ _ _ hb ⟨v,h1,h2⟩=>⟨v,h1,h2.after hb⟩}
theorem FItem.pb_holds{t B:Nat}{T:TypeId}{cs:Array Value}{a:Act}{w:World}:(FItem.pb t B T cs).holds a w↔PtrB B T cs (a.tmps.getD t undef) w:=by
 constructor
 ·rintro⟨v,h1,h2⟩;injection h1 with h1;have h1:a.tmps.getD t undef=v:=h1
  rwa [h1]
 ·exact fun h=>⟨_,rfl,h⟩
theorem pb_put{a:Act}{d B:Nat}{T:TypeId}{cs:Array Value}{v:Value}{w:World}{sz:Nat}(hs:SzIs a sz)(hd:d<sz)(h:PtrB B T cs v w):(FItem.pb d B T cs).holds (a.put (some d) v) w:=FItem.pb_holds.2 (by rw[put_self a d v (by rw[hs.out];exact hd)];exact h)
def Headed(ch:ByteArray)(ht sec ns:Int)(X Y:List Seat)(pr:ByteArray)(salt:List Int)(H:Hd):Prop:=
 ∃bh bp hh,H=mkH ch ht sec ns bh bp hh pr∧bh.l=sha salt∧bp.l=sha salt∧(hh 2).l=rootN 20 (sLeaves X)∧(hh 3).l=rootN 20 (sLeaves Y)∧(hh 5).l=sha salt∧∀i,i<8→(hh i).l.length=32
theorem c_headed(ch:ByteArray)(ht sec ns:Int)(X Y:List Seat)(A A' A2:Option Addr)(c c' c2:Nat)(salt:List Int)(x0:Seat)(w:World)(hX:SeatsAt w A X)(hY:SeatsAt w A' Y)(hgX:Good X)(hgY:Good Y)(hX20:X.length≤20)(hY20:Y.length≤20)(hx0:X[0]?=some x0)(hsl:Bs w A2 salt)(hs8:Bytes salt)(hsn:salt.length≤900000000000):
  Calls Tryz.prog 7 #[.string ch,.int .i64 ht,.agg #[.int .i64 sec,.int .i64 ns],.slice A X.length c,.slice A' Y.length c',.slice A2 salt.length c2] w fun e w'=>∃H,e=.returned (.agg H.cells)∧Headed ch ht sec ns X Y x0.a salt H∧H.ok w'∧Below w.heap.size w w':=by
 suffices h:∀w0,(SeatsAt w0 A X)→(SeatsAt w0 A' Y)→(Bs w0 A2 salt)→Below w0.heap.size w0 w→Calls Tryz.prog 7 #[.string ch,.int .i64 ht,.agg #[.int .i64 sec,.int .i64 ns],.slice A X.length c,.slice A' Y.length c',.slice A2 salt.length c2] w fun e w'=>∃H,e=.returned (.agg H.cells)∧Headed ch ht sec ns X Y x0.a salt H∧H.ok w'∧Below w0.heap.size w0 w' from h w hX hY hsl (bz_refl w)
 clear hX hY hsl;intro w0 hX hY hsl hB;refine enter_abs Tryz.func7 rfl 52 rfl (by simp) ?_;intro a hs hd hargs;have s0:=hargs 0 _ rfl;have s1:=hargs 1 _ rfl;have s2:=hargs 2 _ rfl;have s3:=hargs 3 _ rfl;have s4:=hargs 4 _ rfl;have s5:=hargs 5 _ rfl;clear hargs;refine wp_seq ?_;refine wp_region_list ?_;show wpList _ _ _ [_,_] _ _
 refine tail_op rfl (fun K hK=>?_);have q2:=gd s2;go_simp;clear q2;refine hK _ _ ?_;clear hK K;refine act_put (d:=8) _ hs hd (by decide) [(0,_),(1,_),(2,_),(3,_),(4,_),(5,_)] ⟨s0,s1,s2,s3,s4,s5,trivial⟩ rfl ?_;clear hs hd s0 s1 s2 s3 s4 s5;intro a hs hd zl;obtain⟨m,hE⟩:∃B,Is w.heap.size B:=is_self _;generalize hw1:World.alloc w _=w1;have hm:Blk w1 m 31 #[.int .i64 sec,.int .i64 ns]:=by rw[← hw1,← hE.out];exact Blk.new w _ _
 have hB1:Below w.heap.size w w1:=by rw[← hw1];exact bz_alloc (bz_refl w) _
 replace hB:=bz_then hB hB1;obtain⟨s8,s0,s1,s2,s3,s4,s5,-⟩:=zl;rw[hE.out]at s8;clear hw1 hB1 hE;refine tail_op rfl (fun K hK=>?_);go_simp;refine hK _ _ ?_;clear hK K;refine act_put (d:=12) _ hs hd (by decide) [(0,_),(1,_),(2,_),(3,_),(4,_),(5,_),(8,_)] ⟨s0,s1,s2,s3,s4,s5,s8,trivial⟩ rfl ?_;clear hs hd s0 s1 s2 s3 s4 s5 s8;intro a hs hd zl;obtain⟨z,hE⟩:∃B,Is w1.heap.size B:=is_self _;generalize hw1:World.alloc w1 _=w2;have hz:Blk w2 z 37 #[.int .i64 0,.int .i64 0,.string ⟨#[]⟩,.int .i64 0,.int .i64 0,.int .i64 0,.slice none 0 0,.int .i64 0,.slice none 0 0,.slice none 0 0,.slice none 0 0,.slice none 0 0,.slice none 0 0,.slice none 0 0,.slice none 0 0,.slice none 0 0,.slice none 0 0,.string ⟨#[]⟩]:=by rw[← hw1,← hE.out];exact Blk.new w1 _ _
 have hB1:Below w1.heap.size w1 w2:=by rw[← hw1];exact bz_alloc (bz_refl w1) _
 have hBz:=Nat.le_trans hB.size (Nat.le_of_eq hE.out);replace hB:=bz_then hB hB1;replace hm:=hm.after hB1;obtain⟨s12,s0,s1,s2,s3,s4,s5,s8,-⟩:=zl;rw[hE.out]at s12;clear hw1 hB1 hE;clear s2;refine wp_seq ?_;have hXn:0<X.length:=(List.getElem?_eq_some_iff.1 hx0).1;obtain⟨b,o,rfl,hbw,hcl⟩:=(hX.after hB).at_ hXn;have c0:w2.cell? ⟨b,o,none⟩=some (.string x0.a):=hcl 0 x0 hx0 0 _ rfl;obtain⟨B,hBB⟩:∃B,Is w2.heap.size B:=is_self _;have hzB:z<B:=by rw[← hBB.out];exact hz.lt
 have hBu:∀u,Below w2.heap.size w2 u→B≤u.heap.size:=fun u h=>by rw[← hBB.out];exact h.size
 clear hcl;refine fl2 (F:=[(0,_),(1,_),(3,_),(4,_),(5,_),(8,_),(12,_)]) [.eq 15 _,.eq 16 _,.eq 17 (.agg #[.int .i64 sec,.int .i64 ns]),.eq 18 _,FItem.bs 19 B (sha salt),.eq 20 _,FItem.bs 21 B (sha salt),FItem.bid 22 B (sha salt) (sha salt),.eq 23 _,.eq 24 _,.eq 25 _,.eq 26 _,FItem.h0 27 B ch ht sec ns x0.a (sha salt) (sha salt),FItem.pb 13 B 37 #[.int .i64 0,.int .i64 0,.string ⟨#[]⟩,.int .i64 0,.int .i64 0,.int .i64 0,.slice none 0 0,.int .i64 0,.slice none 0 0,.slice none 0 0,.slice none 0 0,.slice none 0 0,.slice none 0 0,.slice none 0 0,.slice none 0 0,.slice none 0 0,.slice none 0 0,.string ⟨#[]⟩]] 14 hs hd ⟨s0,s1,s3,s4,s5,s8,s12,trivial⟩
  ⟨sP bq,
   sP bq,
   (stp rfl fun a u hb hs hl hd K hK=>by
    have s8:=gL hl 5;have c0:=cell_up hb c0;clear hd;refine op_load_row 31 (.tmp 8) rfl m (gu s8) _ _ _ (hm.after hb) rfl rfl (by kernel_rfl) ?_;exact kE hK hs),
   sP bq,
   (stp rfl fun a u hb hs hl hd K hK=>by
    have s18:=gD hd 3;have c0:=cell_up hb c0;clear hd;have hs2:=hsl.after (bz_then hB hb);go_simp;refine(c_specSum A2 c2 salt _ hs2 hs8 hsn).mono ?_;intro e w5 h;obtain⟨v,rfl,hv,hb2⟩:=h.read.at_ (hBu _ hb);exact hK _ _ hb2 (bs_put hs (by decide) hv)),
   sP bq,
   (stp rfl fun a u hb hs hl hd K hK=>by
    have s20:=gD hd 5;have c0:=cell_up hb c0;clear hd;have hs2:=hsl.after (bz_then hB hb);go_simp;refine(c_specSum A2 c2 salt _ hs2 hs8 hsn).mono ?_;intro e w5 h;obtain⟨v,rfl,hv,hb2⟩:=h.read.at_ (hBu _ hb);exact hK _ _ hb2 (bs_put hs (by decide) hv)),
   (stp rfl fun a u hb hs hl hd K hK=>by
    have i19:=FItem.bs_holds.1 (dep_get0 hd 4 (by kernel_rfl));obtain⟨v19,e19⟩:∃v,Is (a.tmps.getD 19 undef) v:=is_self _;rw[e19.out]at i19;have s19:=gd e19.out;have i21:=FItem.bs_holds.1 (dep_get0 hd 6 (by kernel_rfl));obtain⟨v21,e21⟩:∃v,Is (a.tmps.getD 21 undef) v:=is_self _;rw[e21.out]at i21;have s21:=gd e21.out;have c0:=cell_up hb c0;clear hd;have j19:=i19;obtain⟨x19,A19,k19,-,rfl,-,-,-,-⟩:=j19;have j21:=i21;obtain⟨x21,A21,k21,-,rfl,-,-,-,-⟩:=j21;go_simp;exact hK _ _ (Below.refl _ _) (bid_put hs (by decide) ⟨_,_,_,_,_,_,rfl,i19,i21⟩)),
   sP bq,
   sP bq,
   sP bq,
   sP bq,
   (stp rfl fun a u hb hs hl hd K hK=>by
    have s15:=gD hd 0;have s16:=gD hd 1;have s17:=gD hd 2;have i22:=FItem.bid_holds.1 (dep_get0 hd 7 (by kernel_rfl));obtain⟨v22,e22⟩:∃v,Is (a.tmps.getD 22 undef) v:=is_self _;rw[e22.out]at i22;have s22:=gd e22.out;have s26:=gD hd 11;have c0:=cell_up hb c0;clear hd;obtain⟨A19,k19,A21,k21,x19,x21,rfl,i19,i21⟩:=i22;obtain⟨bh,hbh,hbo,hbl,hbB⟩:=i19.sl2 (sha_bytes _) (by rw[shaN];decide);obtain⟨bp,hbp,hpo,hpl,hpB⟩:=i21.sl2 (sha_bytes _) (by rw[shaN];decide);go_simp;exact hK _ _ (Below.refl _ _) (h0_put hs (by decide) ⟨bh,bp,rfl,hbo,hpo,hbl,hpl,hbB,hpB⟩)),
   (stp rfl fun a u hb hs hl hd K hK=>by
    have c0:=cell_up hb c0;clear hd;go_simp;exact hK _ _ (bz_alloc (bz_refl _) _) (pb_put hs (by decide) ⟨_,rfl,Blk.new _ _ _,hBu _ hb⟩)),
   trivial⟩ ?_
 clear hs hd s0 s1 s3 s4 s5 s8 s12;intro a w hb hs hd zl hh;have i27:=FItem.h0_holds.1 (hold_get hh 12);obtain⟨v27,s27⟩:∃v,a.tmps.getD 27 undef=v:=⟨_,rfl⟩;rw[s27]at i27;have i13:=FItem.pb_holds.1 (hold_get hh 13);obtain⟨v13,s13⟩:∃v,a.tmps.getD 13 undef=v:=⟨_,rfl⟩;rw[s13]at i13;clear hh;replace hm:=hm.after hb;replace hz:=hz.after hb;replace c0:=cell_up hb c0;replace hB:=bz_then hB hb;clear hb;show wpList _ _ _ [_] _ _
 refine tail_op rfl (fun K hK=>?_);have q13:=gd s13;have q27:=gd s27;obtain⟨bh,bp,rfl,hbo,hpo,hbl,hpl,hbB,hpB⟩:=i27;obtain⟨g,rfl,hg0,hgB⟩:=i13;refine op_store_row 37 (.tmp 13) (.tmp 27) rfl g s13 (mkH ch ht sec ns bh bp (fun _=>HSl.nil) x0.a).cells s27 37 _ hg0 rfl (by kernel_rfl) (Hd.one _) ?_;clear q13 q27;refine hK _ _ ?_;clear hK K;change wpList _ _ _ _ a _;have hbf:bh.far w z g:=⟨hbo,fun k hk=>⟨by have:=hbB k hk;omega,not_u8 hbo (by rw[hbl.out,shaN];decide) hg0 z_not_u8 k hk⟩⟩;have hpf:bp.far w z g:=⟨hpo,fun k hk=>⟨by have:=hpB k hk;omega,not_u8 hpo (by rw[hpl.out,shaN];decide) hg0 z_not_u8 k hk⟩⟩;have hzg:z<g:=by omega
 have hBg:w0.heap.size≤g:=by omega
 have hgs:=gb_setRow w g ((mkH ch ht sec ns bh bp (fun _=>HSl.nil) x0.a).cells);have hg:=hg0.setRow ((mkH ch ht sec ns bh bp (fun _=>HSl.nil) x0.a).cells);replace hB:=below_setRow hB hBg ((mkH ch ht sec ns bh bp (fun _=>HSl.nil) x0.a).cells);replace hz:=hz.gbfar hgs (by omega);replace hbo:=hbf.gbg hgs;replace hpo:=hpf.gbg hgs;clear hbf hpf hgs hg0 hbB hpB;generalize World.setRow w g _=w1 at hg hB hz hbo hpo⊢;clear s27;clear c0 hm hBu hzB;have hsu:Sums (fun _=>HSl.nil) w1 z g:=fun i=>HSl.nil_far _ _ _
 refine wp_seq ?_;refine wp_seq ?_;refine wp_region_list ?_;show wpList _ _ _ [_] _ _
 refine tail_op rfl (fun K hK=>?_);go_simp;refine hK _ _ ?_;clear hK K;obtain⟨-,-,s3,s4,s5,-,s12,-⟩:=zl;refine act_put (d:=28) _ hs hd (by decide) [(3,_),(4,_),(5,_),(12,_),(13,_)] ⟨s3,s4,s5,s12,s13,trivial⟩ rfl ?_;clear hs hd s3 s4 s5 s12 s13;intro a hs hd zl;refine wp_block ?_;obtain⟨s28,s3,s4,s5,s12,s13,-⟩:=zl;refine wp_loop (fun a w=>∃(k:Nat) (hh:Nat→HSl),SzIs a 52∧DfNil a∧LiveAll [(3,.slice (some ⟨b,o,none⟩) X.length c),(4,.slice A' Y.length c'),(5,.slice A2 salt.length c2),(12,.pointer (some ⟨z,0,none⟩)),(13,.pointer (some ⟨g,0,none⟩)),(28,.int .i64 ((k:Nat):Int))] a∧(k≤8)∧(∀i,i<k→(hh i).l.length=32)∧(Below w0.heap.size w0 w)∧(Blk w z 37 #[.int .i64 0,.int .i64 0,.string ⟨#[]⟩,.int .i64 0,.int .i64 0,.int .i64 0,.slice none 0 0,.int .i64 0,.slice none 0 0,.slice none 0 0,.slice none 0 0,.slice none 0 0,.slice none 0 0,.slice none 0 0,.slice none 0 0,.slice none 0 0,.slice none 0 0,.string ⟨#[]⟩])∧(Blk w g 37 (mkH ch ht sec ns bh bp hh x0.a).cells)∧(bh.far w z g)∧(bp.far w z g)∧(Sums hh w z g))
  (fun a _=>8-(intOf (a.tmps.getD 28 undef)).toNat) ⟨0,_,hs,hd,⟨s3,s4,s5,s12,s13,s28,trivial⟩,by decide,(fun i h=>absurd h (Nat.not_lt_zero i)),hB,hz,hg,hbo,hpo,hsu⟩ ?_
 clear hs hd s3 s4 s5 s12 s13 s28;rintro a w ⟨k,hh,hs,hd,⟨s3,s4,s5,s12,s13,s28,-⟩,hk,hln,hB,hz,hg,hbo,hpo,hsu⟩;have hm:(intOf (a.tmps.getD 28 undef)).toNat=k:=by rw[s28];simp[intOf]
 rw[hm];clear hm;have HLN:=Is.hid hln;clear hln;by_cases hlt:k<8
 ·have e1:decide (k<8)=true:=decide_eq_true hlt;have e2:decide ((k:Int)<8)=true:=decide_eq_true (by omega);have ew:IntKind.i64.wrap ((k:Int)+1)=((k+1:Nat):Int):=by rw[IntWalk.i64_in _ (by omega)];omega
  have e8:IntKind.u8.wrap (k:Int)=(k:Int):=(IntKind.wrap_u8' _).trans (by omega);have h8:(k:Int)<8:=by omega
  refine wp_seq ?_;refine wp_region_list ?_;show wpList _ _ _ [_] _ _
  refine tail_op rfl (fun K hK=>?_);have q28:=gd s28;go_simp;clear q28;refine hK _ _ ?_;clear hK K;refine act_put (d:=29) _ hs hd (by decide) [(3,_),(4,_),(5,_),(12,_),(13,_),(28,_)] ⟨s3,s4,s5,s12,s13,s28,trivial⟩ rfl ?_;clear hs hd s3 s4 s5 s12 s13 s28;intro a hs hd zl;refine wn 5 ?_;clear hs hd zl;intro a hs hd zl;refine tail_op rfl (fun K hK=>?_);have q33:=gL zl 0;go_simp;clear q33;refine hK _ _ (tP hs hd zl ?_);clear hK K hs hd zl;intro a hs hd zl;obtain⟨g4,hE⟩:∃B,Is w.heap.size B:=is_self _;generalize hw1:World.alloc w _=w1;have hg4:Blk w1 g4 5 #[.int .u8 (k:Int)]:=by rw[← hw1,← hE.out];exact Blk.new w _ _
  have hB1:Below w.heap.size w w1:=by rw[← hw1];exact bz_alloc (bz_refl w) _
  replace hB:=bz_then hB hB1;replace hz:=hz.after hB1;replace hg:=hg.after hB1;replace hbo:=hbo.after hB1;replace hpo:=hpo.after hB1;replace hsu:=hsu.after hB1;obtain⟨s34,s33,s32,s31,s14,-,-,s3,s4,s5,s12,s13,s28,-⟩:=zl;rw[hE.out]at s34;clear hw1 hB1 hE;have hb1s:Bs w1 (some ⟨g4,0,none⟩) [(k:Int)]:=bs_u8s (l:=[(k:Int)]) hg4;refine tail_op rfl (fun K hK=>?_);have q34:=gd s34;go_simp;refine(c_specSum (some ⟨g4,0,none⟩) 1 [(k:Int)] _ hb1s (Bytes.cons (by unfold U8;omega) Bytes.nil) (by simp)).mono ?_;intro e w5 h;obtain⟨v,rfl,hv,hb2⟩:=h.read.at_ (Nat.le_refl _);clear q34;refine hK _ _ ?_;clear hK K;refine act_put (d:=35) _ hs hd (by decide) [(3,_),(4,_),(5,_),(12,_),(13,_),(14,_),(28,_),(31,_),(32,_),(33,_),(34,_)] ⟨s3,s4,s5,s12,s13,s14,s28,s31,s32,s33,s34,trivial⟩ rfl ?_;clear hs hd s3 s4 s5 s12 s13 s14 s28 s31 s32 s33 s34;intro a hs hd zl;have hgB:=hg.lt;have hzB:=hz.lt;replace hB:=bz_then hB hb2;replace hz:=hz.after hb2;replace hg:=hg.after hb2;replace hbo:=hbo.after hb2;replace hpo:=hpo.after hb2;replace hsu:=hsu.after hb2;obtain⟨s,rfl,hsf,hsl2⟩:=hv.far (sha_bytes _) (by rw[shaN];decide) hzB hgB;obtain⟨s35,s3,s4,s5,s12,s13,s14,s28,s31,s32,s33,s34,-⟩:=zl;unfold HSl.v at s35;clear hb2 hb1s hg4 hgB hzB;refine tail_op rfl (fun K hK=>?_);have q13:=gd s13;go_simp;clear q13;refine hK _ _ ?_;clear hK K;refine act_put (d:=36) _ hs hd (by decide) [(3,_),(4,_),(5,_),(12,_),(13,_),(14,_),(28,_),(31,_),(32,_),(33,_),(34,_),(35,_)] ⟨s3,s4,s5,s12,s13,s14,s28,s31,s32,s33,s34,s35,trivial⟩ rfl ?_;clear hs hd s3 s4 s5 s12 s13 s14 s28 s31 s32 s33 s34 s35;intro a hs hd zl;refine wn 1 ?_;clear hs hd zl;intro a hs hd zl;refine tail_op rfl (fun K hK=>?_);have q35:=gL zl 13;have q37:=gL zl 0;have cz:w5.cell? ⟨g,9+k,none⟩=some ((hh k).v):=by rw[hg.cell];exact mkH_cell _ _ _ _ _ _ _ _ _ hlt
  unfold HSl.v at cz;have fz:w5.frozen? ⟨g,9+k,none⟩=false:=hg.free _;go_simp;clear q35 q37;refine hK _ _ ?_;clear hK K;change wpList _ _ _ _ a _;have hgs:=gb1 w5 g (9+k) (.slice s.A s.l.length s.c);have hg2:Blk (World.setCell w5 ⟨g,9+k,none⟩ (.slice s.A s.l.length s.c)) g 37 (mkH ch ht sec ns bh bp (updH hh k s) x0.a).cells:=by
   have h:=Blk.set_ hg (9+k) s.v;rw[show(mkH ch ht sec ns bh bp hh x0.a).cells.setIfInBounds (9+k) s.v=_ from mkH_set ch ht sec ns bh bp hh x0.a k hlt s]at h;exact h
  replace hB:=Below.setCell hB (p:=⟨g,9+k,none⟩) hBg (.slice s.A s.l.length s.c);replace hz:=hz.gbfar hgs (by omega);replace hbo:=hbo.gbg hgs;replace hpo:=hpo.gbg hgs;replace hsu:=hsu.upd (k:=k) hsf hgs;clear hgs hg cz fz;revert hg2 hB hz hbo hpo hsu;generalize World.setCell w5 _ _=w6;intro hg hB hz hbo hpo hsu;refine wn 1 ?_;clear hs hd zl;intro a hs hd zl;refine tail_op rfl (fun K hK=>?_);have q38:=gL zl 0;go_simp;clear q38;refine hK _ _ ?_;clear hK K;obtain⟨s38,-,-,s3,s4,s5,s12,s13,-,s28,-,-,-,-,-,-⟩:=zl;refine act_put (d:=28) _ hs hd (by decide) [(3,_),(4,_),(5,_),(12,_),(13,_),(38,_)] ⟨s3,s4,s5,s12,s13,s38,trivial⟩ rfl ?_;clear hs hd s3 s4 s5 s12 s13 s28 s38;intro a hs hd zl;obtain⟨s28,s3,s4,s5,s12,s13,-,-⟩:=zl;refine⟨⟨k+1,updH hh k s,hs,hd,⟨s3,s4,s5,s12,s13,s28,trivial⟩,hlt,(fun i hi=>by
   by_cases e:i=k
   ·subst e;rw[updH_at,hsl2.out,shaN]
   ·rw[updH_ne _ _ e];exact HLN.out i (by omega)),hB,hz,hg,hbo,hpo,hsu⟩,?_⟩
  rw[s28];simp[intOf];omega
 obtain rfl:k=8:=by omega
 have e1:decide (8<8)=false:=decide_eq_false (by omega);clear hlt;refine wp_seq ?_;refine wp_region_list ?_;show wpList _ _ _ [_] _ _
 refine tail_op rfl (fun K hK=>?_);have q28:=gd s28;go_simp;clear q28;refine hK _ _ ?_;clear hK K;refine act_put (d:=29) _ hs hd (by decide) [(3,_),(4,_),(5,_),(12,_),(13,_),(28,_)] ⟨s3,s4,s5,s12,s13,s28,trivial⟩ rfl ?_;clear hs hd s3 s4 s5 s12 s13 s28;intro a hs hd zl;refine wp_seq ?_;refine wp_cond_false (vL zl 0) ?_;refine wp_exit ?_;repeat refine then_exit ?_
 refine inBlock_exit ?_;refine wn 1 ?_;clear hs hd zl;intro a hs hd zl;refine tail_op rfl (fun K hK=>?_);have q39:=gL zl 0;go_simp;refine(c_SeatSum X (some ⟨b,o,none⟩) c _ hgX (hX.after hB) hX20).mono ?_;rintro e w5 ⟨v,rfl,hv,hb2⟩;clear q39;refine hK _ _ (tP hs hd zl ?_);clear hK K hs hd zl;intro a hs hd zl;have hgB:=hg.lt;have hzB:=hz.lt;replace hv:=hv.less (B':=_) (Nat.le_refl _);obtain⟨r2,rfl,r2f,r2l⟩:=hv.far (rootN_bytes _ _) (by rw[rootN_len];decide) hzB hgB;obtain⟨s40,s39,s29,s3,s4,s5,s12,s13,-,-⟩:=zl;unfold HSl.v at s40;replace hB:=bz_then hB hb2;replace hz:=hz.after hb2;replace hg:=hg.after hb2;replace hbo:=hbo.after hb2;replace hpo:=hpo.after hb2;replace hsu:=hsu.after hb2;clear hb2 hgB hzB;refine tail_op rfl (fun K hK=>?_);have q4:=gd s4;go_simp;clear q4;refine hK _ _ ?_;clear hK K;refine act_put (d:=41) _ hs hd (by decide) [(3,_),(4,_),(5,_),(12,_),(13,_),(29,_),(39,_),(40,_)] ⟨s3,s4,s5,s12,s13,s29,s39,s40,trivial⟩ rfl ?_;clear hs hd s3 s4 s5 s12 s13 s29 s39 s40;intro a hs hd zl;refine tail_op rfl (fun K hK=>?_);have q41:=gL zl 0;go_simp;refine(c_SeatSum Y A' c' _ hgY (hY.after hB) hY20).mono ?_;rintro e w5 ⟨v,rfl,hv,hb2⟩;clear q41;refine hK _ _ (tP hs hd zl ?_);clear hK K hs hd zl;intro a hs hd zl;have hgB:=hg.lt;have hzB:=hz.lt;replace hv:=hv.less (B':=_) (Nat.le_refl _);obtain⟨r3,rfl,r3f,r3l⟩:=hv.far (rootN_bytes _ _) (by rw[rootN_len];decide) hzB hgB;obtain⟨s42,s41,s3,s4,s5,s12,s13,s29,s39,s40,-⟩:=zl;unfold HSl.v at s42;replace hB:=bz_then hB hb2;replace hz:=hz.after hb2;replace hg:=hg.after hb2;replace hbo:=hbo.after hb2;replace hpo:=hpo.after hb2;replace hsu:=hsu.after hb2;replace r2f:=r2f.after hb2;clear hb2 hgB hzB;refine tail_op rfl (fun K hK=>?_);have q5:=gd s5;go_simp;clear q5;refine hK _ _ ?_;clear hK K;refine act_put (d:=43) _ hs hd (by decide) [(3,_),(4,_),(5,_),(12,_),(13,_),(29,_),(39,_),(40,_),(41,_),(42,_)] ⟨s3,s4,s5,s12,s13,s29,s39,s40,s41,s42,trivial⟩ rfl ?_;clear hs hd s3 s4 s5 s12 s13 s29 s39 s40 s41 s42;intro a hs hd zl;refine tail_op rfl (fun K hK=>?_);have q43:=gL zl 0;go_simp;refine(c_specSum A2 c2 salt _ (hsl.after hB) hs8 hsn).mono ?_;intro e w5 h;obtain⟨v,rfl,hv,hb2⟩:=h.read.at_ (Nat.le_refl _);clear q43;refine hK _ _ (tP hs hd zl ?_);clear hK K hs hd zl;intro a hs hd zl;have hgB:=hg.lt;have hzB:=hz.lt;replace hv:=hv.less (B':=_) (Nat.le_refl _);obtain⟨t5,rfl,t5f,t5l⟩:=hv.far (sha_bytes _) (by rw[shaN];decide) hzB hgB;obtain⟨s44,s43,s3,s4,s5,s12,s13,s29,s39,s40,s41,s42,-⟩:=zl;unfold HSl.v at s44;replace hB:=bz_then hB hb2;replace hz:=hz.after hb2;replace hg:=hg.after hb2;replace hbo:=hbo.after hb2;replace hpo:=hpo.after hb2;replace hsu:=hsu.after hb2;replace r2f:=r2f.after hb2;replace r3f:=r3f.after hb2;clear hb2 hgB hzB;refine tail_op rfl (fun K hK=>?_);have q13:=gd s13;go_simp;clear q13;refine hK _ _ ?_;clear hK K;refine act_put (d:=45) _ hs hd (by decide) [(3,_),(4,_),(5,_),(12,_),(13,_),(29,_),(39,_),(40,_),(41,_),(42,_),(43,_),(44,_)] ⟨s3,s4,s5,s12,s13,s29,s39,s40,s41,s42,s43,s44,trivial⟩ rfl ?_;clear hs hd s3 s4 s5 s12 s13 s29 s39 s40 s41 s42 s43 s44;intro a hs hd zl;refine wn 1 ?_;clear hs hd zl;intro a hs hd zl;refine tail_op rfl (fun K hK=>?_);have q40:=gL zl 9;have q46:=gL zl 0;have cz:w5.cell? ⟨g,11,none⟩=some ((hh 2).v):=by rw[hg.cell];exact mkH_cell _ _ _ _ _ _ _ _ 2 (by decide)
 unfold HSl.v at cz;have fz:w5.frozen? ⟨g,11,none⟩=false:=hg.free _;go_simp;clear q40 q46;refine hK _ _ ?_;clear hK K;change wpList _ _ _ _ a _;have hgs:=gb1 w5 g (11) (.slice r2.A r2.l.length r2.c);have hg2:Blk (World.setCell w5 ⟨g,11,none⟩ (.slice r2.A r2.l.length r2.c)) g 37 (mkH ch ht sec ns bh bp (updH hh 2 r2) x0.a).cells:=by
  have h:=Blk.set_ hg (11) r2.v;rw[show(mkH ch ht sec ns bh bp hh x0.a).cells.setIfInBounds (11) r2.v=_ from mkH_set ch ht sec ns bh bp hh x0.a 2 (by decide) r2]at h;exact h
 replace hB:=Below.setCell hB (p:=⟨g,11,none⟩) hBg (.slice r2.A r2.l.length r2.c);replace hz:=hz.gbfar hgs (by omega);replace hbo:=hbo.gbg hgs;replace hpo:=hpo.gbg hgs;replace hsu:=hsu.upd (k:=2) r2f hgs;replace r3f:=r3f.gbg hgs;replace t5f:=t5f.gbg hgs;clear hgs hg cz fz;revert hg2 hB hz hbo hpo hsu r3f t5f;generalize World.setCell w5 _ _=w6;intro hg hB hz hbo hpo hsu r3f t5f;refine wn 2 ?_;clear hs hd zl;intro a hs hd zl;refine tail_op rfl (fun K hK=>?_);have q42:=gL zl 13;have q48:=gL zl 0;have cz:w6.cell? ⟨g,12,none⟩=some (((updH hh 2 r2) 3).v):=by rw[hg.cell];exact mkH_cell _ _ _ _ _ _ _ _ 3 (by decide)
 unfold HSl.v at cz;have fz:w6.frozen? ⟨g,12,none⟩=false:=hg.free _;go_simp;clear q42 q48;refine hK _ _ ?_;clear hK K;change wpList _ _ _ _ a _;have hgs:=gb1 w6 g (12) (.slice r3.A r3.l.length r3.c);have hg2:Blk (World.setCell w6 ⟨g,12,none⟩ (.slice r3.A r3.l.length r3.c)) g 37 (mkH ch ht sec ns bh bp (updH (updH hh 2 r2) 3 r3) x0.a).cells:=by
  have h:=Blk.set_ hg (12) r3.v;rw[show(mkH ch ht sec ns bh bp (updH hh 2 r2) x0.a).cells.setIfInBounds (12) r3.v=_ from mkH_set ch ht sec ns bh bp (updH hh 2 r2) x0.a 3 (by decide) r3]at h;exact h
 replace hB:=Below.setCell hB (p:=⟨g,12,none⟩) hBg (.slice r3.A r3.l.length r3.c);replace hz:=hz.gbfar hgs (by omega);replace hbo:=hbo.gbg hgs;replace hpo:=hpo.gbg hgs;replace hsu:=hsu.upd (k:=3) r3f hgs;replace t5f:=t5f.gbg hgs;clear hgs hg cz fz;revert hg2 hB hz hbo hpo hsu t5f;generalize World.setCell w6 _ _=w7;intro hg hB hz hbo hpo hsu t5f;refine wn 2 ?_;clear hs hd zl;intro a hs hd zl;refine tail_op rfl (fun K hK=>?_);have q44:=gL zl 17;have q50:=gL zl 0;have cz:w7.cell? ⟨g,14,none⟩=some (((updH (updH hh 2 r2) 3 r3) 5).v):=by rw[hg.cell];exact mkH_cell _ _ _ _ _ _ _ _ 5 (by decide)
 unfold HSl.v at cz;have fz:w7.frozen? ⟨g,14,none⟩=false:=hg.free _;go_simp;clear q44 q50;refine hK _ _ ?_;clear hK K;change wpList _ _ _ _ a _;have hgs:=gb1 w7 g (14) (.slice t5.A t5.l.length t5.c);have hg2:Blk (World.setCell w7 ⟨g,14,none⟩ (.slice t5.A t5.l.length t5.c)) g 37 (mkH ch ht sec ns bh bp (updH (updH (updH hh 2 r2) 3 r3) 5 t5) x0.a).cells:=by
  have h:=Blk.set_ hg (14) t5.v;rw[show(mkH ch ht sec ns bh bp (updH (updH hh 2 r2) 3 r3) x0.a).cells.setIfInBounds (14) t5.v=_ from mkH_set ch ht sec ns bh bp (updH (updH hh 2 r2) 3 r3) x0.a 5 (by decide) t5]at h;exact h
 replace hB:=Below.setCell hB (p:=⟨g,14,none⟩) hBg (.slice t5.A t5.l.length t5.c);replace hz:=hz.gbfar hgs (by omega);replace hbo:=hbo.gbg hgs;replace hpo:=hpo.gbg hgs;replace hsu:=hsu.upd (k:=5) t5f hgs;clear hgs hg cz fz;revert hg2 hB hz hbo hpo hsu;generalize World.setCell w7 _ _=w8;intro hg hB hz hbo hpo hsu;refine wp_seq ?_;obtain⟨h4,hh4⟩:∃h,Is (updH (updH (updH hh 2 r2) 3 r3) 5 t5) h:=is_self _;rw[show updH (updH (updH hh 2 r2) 3 r3) 5 t5=h4 from hh4.out]at hg hsu;refine wp_region_list ?_;show wpList _ _ _ [_,_] _ _
 refine tail_op rfl (fun K hK=>?_);have q13:=gL zl 10;have s13:=vL zl 10;refine op_load_row 37 (.tmp 13) rfl g s13 _ _ _ hg rfl rfl (by kernel_rfl) ?_;clear q13;refine hK _ _ (tP hs hd zl ?_);clear hK K hs hd zl s13;intro a hs hd zl;refine tail_op rfl (fun K hK=>?_);have q12:=gL zl 10;have q51:=gL zl 0;have s12:=vL zl 10;have s51:=vL zl 0;refine op_store_row 37 (.tmp 12) (.tmp 51) rfl z s12 (mkH ch ht sec ns bh bp h4 x0.a).cells s51 37 _ hz rfl (by kernel_rfl) (Hd.one _) ?_;clear q12 q51;refine hK _ _ ?_;clear hK K;change wpList _ _ _ _ a _;have hgs:=gb_setRow w8 z ((mkH ch ht sec ns bh bp h4 x0.a).cells);have hz2:=hz.setRow ((mkH ch ht sec ns bh bp h4 x0.a).cells);replace hB:=below_setRow hB hBz ((mkH ch ht sec ns bh bp h4 x0.a).cells);replace hbo:=hbo.gbz hgs;replace hpo:=hpo.gbz hgs;replace hsu:Sums h4 _ z g:=fun i=>(hsu i).gbz hgs
 clear hgs hg hz;revert hz2 hB hbo hpo hsu;generalize World.setRow w8 z _=w9;intro hz2 hB hbo hpo hsu;clear s51;have k2:h4 2=r2:=by rw[← hh4.out];rfl
 have k3:h4 3=r3:=by rw[← hh4.out];rfl
 have k5:h4 5=t5:=by rw[← hh4.out];rfl
 have kk:∀i,i<8→(h4 i).l.length=32:=fun i hi=>by
  rw[← hh4.out];by_cases e5:i=5
  ·subst e5;rw[updH_at,t5l.out,shaN]
  ·rw[updH_ne _ _ e5];by_cases e3:i=3
   ·subst e3;rw[updH_at,r3l.out,rootN_len]
   ·rw[updH_ne _ _ e3];by_cases e2:i=2
    ·subst e2;rw[updH_at,r2l.out,rootN_len]
    ·rw[updH_ne _ _ e2];exact HLN.out i hi
 refine wp_ret ?_;exact end_row rfl z s12 hd.out 37 _ _ hz2 Tryz.underlying37 rfl (by kernel_rfl) ⟨(mkH ch ht sec ns bh bp h4 x0.a),rfl,⟨bh,bp,h4,rfl,hbl.out,hpl.out,by rw[k2];exact r2l.out,by rw[k3];exact r3l.out,by rw[k5];exact t5l.out,kk⟩,⟨hbo.ok,hpo.ok,fun i _=>(hsu i).ok⟩,hB⟩
theorem c_canBid(p:Int)(s r:HSl)(w:World)(h32:s.l.length=32)(hrz:Sized r.l):
  Calls Tryz.prog 164 #[.agg #[s.v,.int .u32 p,r.v]] w fun e w'=>∃g,e=.returned (.pointer (some ⟨g,0,none⟩))∧w.heap.size≤g∧Blk w' g 260 #[s.v,.int .u32 p,r.v]∧Below w.heap.size w w':=by
 suffices h:∀w0,Below w0.heap.size w0 w→Calls Tryz.prog 164 #[.agg #[s.v,.int .u32 p,r.v]] w fun e w'=>∃g,e=.returned (.pointer (some ⟨g,0,none⟩))∧w0.heap.size≤g∧Blk w' g 260 #[s.v,.int .u32 p,r.v]∧Below w0.heap.size w0 w' from h w (bz_refl w)
 intro w0 hB;refine enter_abs Tryz.func164 rfl 20 rfl (by simp) ?_;intro a hs hd hargs;have s0:=hargs 0 _ rfl;clear hargs;have e3:0<s.l.length:=by omega
 have H32:=Is.hid h32;have H3:=Is.hid e3;clear h32 e3;refine wp_seq ?_;refine wp_region_list ?_;show wpList _ _ _ [_,_] _ _
 refine tail_op rfl (fun K hK=>?_);have q0:=gd s0;go_simp;clear q0;refine hK _ _ ?_;clear hK K;refine act_put (d:=1) _ hs hd (by decide) [(0,_)] ⟨s0,trivial⟩ rfl ?_;clear hs hd s0;intro a hs hd zl;obtain⟨g,hE⟩:∃B,Is w.heap.size B:=is_self _;generalize hw1:World.alloc w _=w1;have hg:Blk w1 g 117 #[s.v,.int .u32 p,r.v]:=by rw[← hw1,← hE.out];exact Blk.new w _ _
 have hB1:Below w.heap.size w w1:=by rw[← hw1];exact bz_alloc (bz_refl w) _
 replace hB:=bz_then hB hB1;obtain⟨s1,s0,-⟩:=zl;rw[hE.out]at s1;clear hw1 hB1 hE;refine tail_op rfl (fun K hK=>?_);go_simp;refine hK _ _ ?_;clear hK K;refine act_put (d:=2) _ hs hd (by decide) [(0,_),(1,_)] ⟨s0,s1,trivial⟩ rfl ?_;clear hs hd s0 s1;intro a hs hd zl;refine wp_seq ?_;refine wp_seq ?_;refine wp_region_list ?_;show wpList _ _ _ [_,_,_] _ _
 refine tail_op rfl (fun K hK=>?_);have q1:=gL zl 2;have s1:=vL zl 2;refine op_load_row 117 (.tmp 1) rfl g s1 _ _ _ hg rfl rfl (by kernel_rfl) ?_;clear q1;refine hK _ _ (tP hs hd zl ?_);clear hK K hs hd zl s1;intro a hs hd zl;refine tail_op rfl (fun K hK=>?_);have q5:=gL zl 0;unfold HSl.v at q5;go_simp;refine(c_bidV p s.A r.A s.c r.c s.l r.l _ (.inr H32.out) hrz).mono ?_;rintro e w3 ⟨rfl,hb2⟩;clear q5;refine hK _ _ (tP hs hd zl ?_);clear hK K hs hd zl;intro a hs hd zl;replace hB:=bz_then hB hb2;replace hg:=hg.after hb2;clear hb2;refine wn 4 ?_;clear hs hd zl;intro a hs hd zl;refine wp_seq ?_;refine wp_seq ?_;refine wp_region_list ?_;show wpList _ _ _ [_,_] _ _
 refine tail_op rfl (fun K hK=>?_);have q1:=gL zl 8;have s1:=vL zl 8;refine op_load_row 117 (.tmp 1) rfl g s1 _ _ _ hg rfl rfl (by kernel_rfl) ?_;clear q1;refine hK _ _ (tP hs hd zl ?_);clear hK K hs hd zl s1;intro a hs hd zl;refine tail_op rfl (fun K hK=>?_);have q10:=gL zl 0;unfold HSl.v at q10;go_simp;refine(c_bidNil p s.A r.A s.c r.c s.l.length r.l.length _ H3.out).mono ?_;rintro e w5 ⟨rfl,hb2⟩;clear q10;refine hK _ _ (tP hs hd zl ?_);clear hK K hs hd zl;intro a hs hd zl;replace hB:=bz_then hB hb2;replace hg:=hg.after hb2;clear hb2;refine wp_cond_false (vL zl 0) ?_;have c0:w5.cell? ⟨g,0,none⟩=some (.slice s.A s.l.length s.c):=by rw[hg.cell];rfl
 refine fl2 [.eq 12 _,.eq 13 (.slice s.A s.l.length s.c),.eq 14 _,.eq 15 (.agg #[.int .u32 p,r.v]),.eq 16 (.agg #[.int .u32 p,r.v]),.eq 17 _] 6 hs hd zl
  ⟨sP bq,
   sP bq,
   sP bq,
   (stp rfl fun a u hb hs hl hd K hK=>by
    have s14:=gD hd 2;have c0:=cell_up hb c0;clear hd;refine op_load_part 115 (.tmp 14) rfl g 1 (gu s14) _ _ #[.int .u32 p,r.v] _ (hg.after hb) (show(1+2:Nat)≤3 by decide) rfl rfl (by kernel_rfl) rfl ?_;exact kE hK hs),
   (stp rfl fun a u hb hs hl hd K hK=>by
    have s15:=gD hd 3;have c0:=cell_up hb c0;clear hd;unfold HSl.v at s15;go_simp;refine(c_canPsh p r.A r.c r.l.length _).mono ?_;rintro e w6 ⟨rfl,hb2⟩;exact hK _ _ hb2 (eq_put hs (by decide))),
   (stp rfl fun a u hb hs hl hd K hK=>by
    have s13:=gD hd 1;have s16:=gD hd 4;have c0:=cell_up hb c0;clear hd;unfold HSl.v at s16;go_simp;exact kE hK hs),
   trivial⟩ ?_
 clear hs hd zl;intro a w hb hs hd zl hh;replace zl:=lH hh 5 zl;clear hh;replace hg:=hg.after hb;replace c0:=cell_up hb c0;replace hB:=bz_then hB hb;clear hb;show wpList _ _ _ [_,_] _ _
 refine tail_op rfl (fun K hK=>?_);have q17:=gL zl 0;go_simp;clear q17;refine hK _ _ (tP hs hd zl ?_);clear hK K hs hd zl;intro a hs hd zl;obtain⟨z,hE⟩:∃B,Is w.heap.size B:=is_self _;generalize hw1:World.alloc w _=w1;have hz:Blk w1 z 260 #[s.v,.int .u32 p,r.v]:=by rw[← hw1,← hE.out];exact Blk.new w _ _
 have hB1:Below w.heap.size w w1:=by rw[← hw1];exact bz_alloc (bz_refl w) _
 have hge:=Nat.le_trans hB.size (Nat.le_of_eq hE.out);replace hB:=bz_then hB hB1;replace hg:=hg.after hB1;obtain⟨s18,s17,-,-,s4,-,-,-,-,-,-,-,-,-⟩:=zl;rw[hE.out]at s18;clear hw1 hB1 hE;refine tail_op rfl (fun K hK=>?_);have q18:=gd s18;go_simp;clear q18;refine hK _ _ ?_;clear hK K;refine act_put (d:=4) _ hs hd (by decide) [(17,_),(18,_)] ⟨s17,s18,trivial⟩ rfl ?_;clear hs hd s4 s17 s18;intro a hs hd zl;refine wn 2 ?_;clear hs hd zl;intro a hs hd zl;refine wp_ret ?_;exact end_tmp rfl hd (vL zl 0) ⟨_,rfl,hge,hz,hB⟩
theorem CS.one(s:CS):∀v∈s.cells,v.oneCell'=true:=by intro v hv;simp only[CS.cells,HSl.v,List.mem_cons,List.not_mem_nil,or_false]at hv;rcases hv with rfl|rfl|rfl|rfl|rfl <;> rfl
theorem c_GetVote(C:Cm)(x:CS)(gc i:Nat)(w:World)(hC:C.at w gc)(hx:C.S[i]?=some x)(hfl:x.fl=2)(hi:i≤1000):
  Calls Tryz.prog 153 #[.pointer (some ⟨gc,0,none⟩),.int .i32 (i:Int)] w fun e w'=>∃g,e=.returned (.pointer (some ⟨g,0,none⟩))∧w.heap.size≤g∧Blk w' g 248 #[.int .i32 2,.int .i64 C.ht,.int .i32 C.rd,C.b.v,.int .u32 C.bt,C.bp.v,.int .i64 x.sec,.int .i32 x.ns,x.ad.v,.int .i32 (i:Int),x.sg.v,.slice none 0 0,.slice none 0 0]∧Below w.heap.size w w':=by
 suffices h:∀w0,(C.at w0 gc)→Below w0.heap.size w0 w→Calls Tryz.prog 153 #[.pointer (some ⟨gc,0,none⟩),.int .i32 (i:Int)] w fun e w'=>∃g,e=.returned (.pointer (some ⟨g,0,none⟩))∧w0.heap.size≤g∧Blk w' g 248 #[.int .i32 2,.int .i64 C.ht,.int .i32 C.rd,C.b.v,.int .u32 C.bt,C.bp.v,.int .i64 x.sec,.int .i32 x.ns,x.ad.v,.int .i32 (i:Int),x.sg.v,.slice none 0 0,.slice none 0 0]∧Below w0.heap.size w0 w' from h w hC (bz_refl w)
 clear hC;intro w0 hC hB;refine enter_abs Tryz.func153 rfl 36 rfl (by simp) ?_;intro a hs hd hargs;have s0:=hargs 0 _ rfl;have s1:=hargs 1 _ rfl;clear hargs;refine wp_seq ?_;refine wp_region_list ?_;show wpList _ _ _ [_] _ _
 refine tail_op rfl (fun K hK=>?_);go_simp;refine hK _ _ ?_;clear hK K;refine act_put (d:=4) _ hs hd (by decide) [(0,_),(1,_)] ⟨s0,s1,trivial⟩ rfl ?_;clear hs hd s0 s1;intro a hs hd zl;have HX:=Is.hid hx;have hlt:i<C.S.length:=(List.getElem?_eq_some_iff.1 hx).1;obtain⟨b0,o0,hA,hb0,hcells⟩:=(hC.after hB).rows.at_ (by unfold csRows;rw[List.length_map];omega);have hck:=hcells i x.cells (by unfold csRows;rw[List.getElem?_map,hx];rfl);have c5:w.cell? ⟨gc,5,none⟩=some (.slice C.A C.S.length C.c):=by rw[(hC.after hB).blk.cell];rfl
 obtain⟨n,hn⟩:∃n,Is C.S.length n:=is_self _;rw[hn.out]at c5 hlt;rw[hA]at c5;clear hcells hx hb0;have i0l:0≤(i:Int):=by omega
 have i0h:(i:Int)<(n:Int):=by omega
 have i0t:Int.toNat ((i:Int))=i:=by omega
 refine wn 6 ?_;clear hs hd zl;intro a hs hd zl;refine tail_op rfl (fun K hK=>?_);have q11:=gL zl 0;have s11:=vL zl 0;refine op_load_cells 124 (.tmp 11) rfl b0 _ s11 x.cells _ hck.2 rfl rfl (by kernel_rfl) ?_;clear q11;refine hK _ _ (tP hs hd zl ?_);clear hK K hs hd zl s11;intro a hs hd zl;refine tail_op rfl (fun K hK=>?_);go_simp;refine hK _ _ (tP hs hd zl ?_);clear hK K hs hd zl;intro a hs hd zl;refine tail_op rfl (fun K hK=>?_);have q5:=gL zl 0;have q12:=gL zl 1;have s5:=vL zl 0;have s12:=vL zl 1;refine op_store_row 124 (.tmp 5) (.tmp 12) rfl w.heap.size s5 _ s12 124 _ (Blk.new w _ _) rfl (by kernel_rfl) x.one ?_;clear q5 q12;refine hK _ _ ?_;clear hK K;change wpList _ _ _ _ a _;rw[setRow_alloc_at _ _ _ _ _ rfl];obtain⟨g,hE⟩:∃B,Is w.heap.size B:=is_self _;generalize hw1:World.alloc w _=w1;have hg:Blk w1 g 124 x.cells.toArray:=by rw[← hw1,← hE.out];exact Blk.new w _ _
 have hB1:Below w.heap.size w w1:=by rw[← hw1];exact bz_alloc (bz_refl w) _
 replace hB:=bz_then hB hB1;clear s5 s12;obtain⟨s5,s12,s11,s10,s9,s8,s7,s6,s4,s0,s1,-⟩:=zl;rw[hE.out]at s5;clear hw1 hB1 hE;clear hck c5 i0l i0h i0t;clear s4 s6 s7 s8 s9 s10 s11 s12;have hCw:=hC.after hB;have c0:w1.cell? ⟨gc,0,none⟩=some (.int .i64 C.ht):=by rw[hCw.blk.cell];rfl
 have c1:w1.cell? ⟨gc,1,none⟩=some (.int .i32 C.rd):=by rw[hCw.blk.cell];rfl
 have d1:w1.cell? ⟨g,1,none⟩=some (.slice x.ad.A x.ad.l.length x.ad.c):=by rw[hg.cell];rfl
 have d4:w1.cell? ⟨g,4,none⟩=some (.slice x.sg.A x.sg.l.length x.sg.c):=by rw[hg.cell];rfl
 have hbC:=hCw.blk;refine wp_seq ?_;refine fl2 (F:=[(0,_),(1,_),(5,_)]) [.eq 13 _,.eq 14 _,.eq 15 _,.eq 16 _,.eq 17 _,.eq 18 _,.eq 19 _,.eq 20 _,.eq 21 (.agg x.cells.toArray),.eq 22 _,.eq 23 _,.eq 24 _,.eq 25 (.agg #[C.b.v,.int .u32 C.bt,C.bp.v]),.eq 26 (.agg #[C.b.v,.int .u32 C.bt,C.bp.v]),.eq 27 _,.eq 28 (.agg #[.int .i64 x.sec,.int .i32 x.ns]),.eq 29 _,.eq 30 (.slice x.ad.A x.ad.l.length x.ad.c),.eq 31 _,.eq 32 _,.eq 33 (.slice x.sg.A x.sg.l.length x.sg.c),.eq 34 _] 22 hs hd ⟨s0,s1,s5,trivial⟩
  ⟨sP bq,
   sP bq,
   sP bq,
   sP bq,
   sP bq,
   sP bq,
   sP bq,
   sP bq,
   (stp rfl fun a u hb hs hl hd K hK=>by
    have s5:=gL hl 2;have c0:=cell_up hb c0;have c1:=cell_up hb c1;have d1:=cell_up hb d1;have d4:=cell_up hb d4;clear hd;refine op_load_row 124 (.tmp 5) rfl g (gu s5) _ _ _ (hg.after hb) rfl rfl (by kernel_rfl) ?_;exact kE hK hs),
   sP bq,
   sP bq,
   sP bq,
   (stp rfl fun a u hb hs hl hd K hK=>by
    have s24:=gD hd 11;have c0:=cell_up hb c0;have c1:=cell_up hb c1;have d1:=cell_up hb d1;have d4:=cell_up hb d4;clear hd;refine op_load_part 117 (.tmp 24) rfl gc 2 (gu s24) _ _ #[C.b.v,.int .u32 C.bt,C.bp.v] _ (hbC.after hb) (show(2+3:Nat)≤7 by decide) rfl rfl (by kernel_rfl) rfl ?_;exact kE hK hs),
   (stp rfl fun a u hb hs hl hd K hK=>by
    have s21:=gD hd 8;have s25:=gD hd 12;have c0:=cell_up hb c0;have c1:=cell_up hb c1;have d1:=cell_up hb d1;have d4:=cell_up hb d4;clear hd;unfold CS.cells HSl.v at s21;unfold HSl.v at s25;rw[hfl]at s21;go_simp;refine(c_csBid C.bt x.sec x.ns C.b.A C.bp.A x.ad.A x.sg.A C.b.c C.bp.c C.b.l.length C.bp.l.length x.ad.l.length x.sg.l.length x.ad.c x.sg.c _).mono ?_;rintro e w6 ⟨rfl,hb2⟩;exact hK _ _ hb2 (eq_put hs (by decide))),
   sP bq,
   (stp rfl fun a u hb hs hl hd K hK=>by
    have s27:=gD hd 14;have c0:=cell_up hb c0;have c1:=cell_up hb c1;have d1:=cell_up hb d1;have d4:=cell_up hb d4;clear hd;refine op_load_part 80 (.tmp 27) rfl g 2 (gu s27) _ _ #[.int .i64 x.sec,.int .i32 x.ns] _ (hg.after hb) (show(2+2:Nat)≤5 by decide) rfl rfl (by kernel_rfl) rfl ?_;exact kE hK hs),
   sP bq,
   sP bq,
   sP bq,
   sP bq,
   sP bq,
   (stp rfl fun a u hb hs hl hd K hK=>by
    have s16:=gD hd 3;have s20:=gD hd 7;have s26:=gD hd 13;have s28:=gD hd 15;have s30:=gD hd 17;have s31:=gD hd 18;have s33:=gD hd 20;have c0:=cell_up hb c0;have c1:=cell_up hb c1;have d1:=cell_up hb d1;have d4:=cell_up hb d4;clear hd;unfold HSl.v at s26;go_simp;exact kE hK hs),
   trivial⟩ ?_
 clear hs hd s0 s1 s5;intro a w hb hs hd zl hh;replace zl:=lH hh 21 zl;clear hh;replace hg:=hg.after hb;replace hbC:=hbC.after hb;replace c0:=cell_up hb c0;replace c1:=cell_up hb c1;replace d1:=cell_up hb d1;replace d4:=cell_up hb d4;replace hB:=bz_then hB hb;clear hb;show wpList _ _ _ [_,_] _ _
 refine tail_op rfl (fun K hK=>?_);have q34:=gL zl 0;go_simp;clear q34;refine hK _ _ (tP hs hd zl ?_);clear hK K hs hd zl;intro a hs hd zl;obtain⟨z,hE⟩:∃B,Is w.heap.size B:=is_self _;generalize hw1:World.alloc w _=w1;have hz:Blk w1 z 248 #[.int .i32 2,.int .i64 C.ht,.int .i32 C.rd,C.b.v,.int .u32 C.bt,C.bp.v,.int .i64 x.sec,.int .i32 x.ns,x.ad.v,.int .i32 (i:Int),x.sg.v,.slice none 0 0,.slice none 0 0]:=by rw[← hw1,← hE.out];exact Blk.new w _ _
 have hB1:Below w.heap.size w w1:=by rw[← hw1];exact bz_alloc (bz_refl w) _
 have hge:=Nat.le_trans hB.size (Nat.le_of_eq hE.out);replace hB:=bz_then hB hB1;replace hg:=hg.after hB1;replace hbC:=hbC.after hB1;obtain⟨s35,s34,-,-,-,-⟩:=zl;rw[hE.out]at s35;clear hw1 hB1 hE;refine tail_op rfl (fun K hK=>?_);have q35:=gd s35;go_simp;clear q35;refine hK _ _ ?_;clear hK K;refine act_put (d:=4) _ hs hd (by decide) [(34,_),(35,_)] ⟨s34,s35,trivial⟩ rfl ?_;clear hs hd s34 s35;intro a hs hd zl;refine wp_ret ?_;repeat first|refine then_ret ?_|refine inBlock_ret ?_
 exact end_tmp rfl hd (vL zl 0) ⟨_,rfl,hge,hz,hB⟩
def canCells(ht rd:Int)(z:Nat)(sec ns:Int)(ch:ByteArray):Array Value:=#[.int .i32 2,.int .i64 ht,.int .i64 rd,.pointer (some ⟨z,0,none⟩),.int .i64 sec,.int .i32 ns,.string ch]
theorem can_one(ht rd:Int)(z:Nat)(sec ns:Int)(ch:ByteArray):∀v∈(canCells ht rd z sec ns ch).toList,v.oneCell'=true:=by intro v hv;simp only[canCells,List.mem_cons,List.not_mem_nil,or_false]at hv;rcases hv with rfl|rfl|rfl|rfl|rfl|rfl|rfl <;> rfl
def voteCells(C:Cm)(x:CS)(i:Int):Array Value:=#[.int .i32 2,.int .i64 C.ht,.int .i32 C.rd,C.b.v,.int .u32 C.bt,C.bp.v,.int .i64 x.sec,.int .i32 x.ns,x.ad.v,.int .i32 i,x.sg.v,.slice none 0 0,.slice none 0 0]
theorem c_canVote(C:Cm)(x:CS)(g:Nat)(i:Int)(ch:ByteArray)(w:World)(hg:Blk w g 248 (voteCells C x i))(hn:C.num):
  Calls Tryz.prog 161 #[.string ch,.pointer (some ⟨g,0,none⟩)] w fun e w'=>∃z,e=.returned (.agg (canCells C.ht C.rd z x.sec x.ns ch))∧w.heap.size≤z∧Blk w' z 260 #[C.b.v,.int .u32 C.bt,C.bp.v]∧Below w.heap.size w w':=by
 suffices h:∀w0,(Blk w0 g 248 (voteCells C x i))→Below w0.heap.size w0 w→Calls Tryz.prog 161 #[.string ch,.pointer (some ⟨g,0,none⟩)] w fun e w'=>∃z,e=.returned (.agg (canCells C.ht C.rd z x.sec x.ns ch))∧w0.heap.size≤z∧Blk w' z 260 #[C.b.v,.int .u32 C.bt,C.bp.v]∧Below w0.heap.size w0 w' from h w hg (bz_refl w)
 clear hg;intro w0 hg hB;refine enter_abs Tryz.func161 rfl 29 rfl (by simp) ?_;intro a hs hd hargs;have s0:=hargs 0 _ rfl;have s1:=hargs 1 _ rfl;clear hargs;replace hg:=hg.after hB;refine wp_seq ?_;refine wp_region_list ?_;show wpList _ _ _ [_] _ _
 refine tail_op rfl (fun K hK=>?_);go_simp;refine hK _ _ ?_;clear hK K;refine act_put (d:=4) _ hs hd (by decide) [(0,_),(1,_)] ⟨s0,s1,trivial⟩ rfl ?_;clear hs hd s0 s1;intro a hs hd zl;obtain⟨y,hE⟩:∃B,Is w.heap.size B:=is_self _;generalize hw1:World.alloc w _=w1;have hy:Blk w1 y 251 #[.int .i32 0,.int .i64 0,.int .i64 0,.pointer none,.int .i64 0,.int .i32 0,.string ⟨#[]⟩]:=by rw[← hw1,← hE.out];exact Blk.new w _ _
 have hB1:Below w.heap.size w w1:=by rw[← hw1];exact bz_alloc (bz_refl w) _
 have hBy:=Nat.le_trans hB.size (Nat.le_of_eq hE.out);replace hB:=bz_then hB hB1;replace hg:=hg.after hB1;obtain⟨s4,s0,s1,-⟩:=zl;rw[hE.out]at s4;clear hw1 hB1 hE;have c0:w1.cell? ⟨g,0,none⟩=some (.int .i32 2):=by rw[hg.cell];rfl
 have c1:w1.cell? ⟨g,1,none⟩=some (.int .i64 C.ht):=by rw[hg.cell];rfl
 have c2:w1.cell? ⟨g,2,none⟩=some (.int .i32 C.rd):=by rw[hg.cell];rfl
 have nr:=hn.rd;have er:IntKind.i64.wrap C.rd=C.rd:=IntWalk.i64_in _ (by omega);have H32:=Is.hid hn.b;have H33:=Is.hid (show Sized C.bp.l from .inr hn.bp);obtain⟨N1,hN1⟩:∃N,Is w1.heap.size N:=is_self _;have hyN:y<N1:=by rw[← hN1.out];exact hy.lt
 have hBN:w0.heap.size≤N1:=by omega
 have HN:=Is.hid (show N1≤w1.heap.size by rw[hN1.out];exact Nat.le_refl _);clear hN1;refine wp_seq ?_;refine fl2 (F:=[(0,_),(1,_),(4,_)]) [.eq 5 _,.eq 6 _,.eq 7 _,.eq 8 _,.eq 9 _,.eq 10 _,.eq 11 _,.eq 12 _,.eq 13 _,.eq 14 _,.eq 15 _,.eq 16 _,.eq 17 _,.eq 18 _,.eq 19 _,.eq 20 _,.eq 21 (.agg #[C.b.v,.int .u32 C.bt,C.bp.v]),FItem.pb 22 N1 260 #[C.b.v,.int .u32 C.bt,C.bp.v],.eq 23 _,.eq 24 _,.eq 25 _,.eq 26 (.agg #[.int .i64 x.sec,.int .i32 x.ns]),.eq 27 _] 23 hs hd ⟨s0,s1,s4,trivial⟩
  ⟨sP bq,
   sP bq,
   sP bq,
   sP bq,
   sP bq,
   sP bq,
   sP bq,
   sP bq,
   sP bq,
   sP bq,
   sP bq,
   sP bq,
   sP bq,
   sP bq,
   sP bq,
   sP bq,
   (stp rfl fun a u hb hs hl hd K hK=>by
    have s20:=gD hd 15;have c0:=cell_up hb c0;have c1:=cell_up hb c1;have c2:=cell_up hb c2;clear hd;refine op_load_part 117 (.tmp 20) rfl g 3 (gu s20) _ _ #[C.b.v,.int .u32 C.bt,C.bp.v] _ (hg.after hb) (show(3+3:Nat)≤13 by decide) rfl rfl (by kernel_rfl) rfl ?_;exact kE hK hs),
   (stp rfl fun a u hb hs hl hd K hK=>by
    have s21:=gD hd 16;have c0:=cell_up hb c0;have c1:=cell_up hb c1;have c2:=cell_up hb c2;clear hd;go_simp;refine(c_canBid C.bt C.b C.bp _ H32.out H33.out).mono ?_;rintro e w6 ⟨z,rfl,hz,hbz,hb2⟩;exact hK _ _ hb2 (pb_put hs (by decide) ⟨z,rfl,hbz,Nat.le_trans HN.out (Nat.le_trans hb.size hz)⟩)),
   sP bq,
   sP bq,
   sP bq,
   (stp rfl fun a u hb hs hl hd K hK=>by
    have s25:=gD hd 20;have c0:=cell_up hb c0;have c1:=cell_up hb c1;have c2:=cell_up hb c2;clear hd;refine op_load_part 80 (.tmp 25) rfl g 6 (gu s25) _ _ #[.int .i64 x.sec,.int .i32 x.ns] _ (hg.after hb) (show(6+2:Nat)≤13 by decide) rfl rfl (by kernel_rfl) rfl ?_;exact kE hK hs),
   sP bq,
   trivial⟩ ?_
 clear hs hd s0 s1 s4;intro a w hb hs hd zl hh;replace zl:=lH hh 3 zl;replace zl:=lH hh 7 zl;replace zl:=lH hh 12 zl;replace zl:=lH hh 21 zl;replace zl:=lH hh 22 zl;have i22:=FItem.pb_holds.1 (hold_get hh 17);obtain⟨v22,s22⟩:∃v,a.tmps.getD 22 undef=v:=⟨_,rfl⟩;rw[s22]at i22;clear hh;replace hg:=hg.after hb;replace hy:=hy.after hb;replace c0:=cell_up hb c0;replace c1:=cell_up hb c1;replace c2:=cell_up hb c2;replace hB:=bz_then hB hb;clear hb;show wpList _ _ _ [_,_] _ _
 refine tail_op rfl (fun K hK=>?_);have q8:=gL zl 4;have q12:=gL zl 3;have q17:=gL zl 2;have q22:=gd s22;have q26:=gL zl 1;have q27:=gL zl 0;obtain⟨z,rfl,hbz,hzN⟩:=i22;go_simp;clear q8 q12 q17 q22 q26 q27;refine hK _ _ ?_;clear hK K;obtain⟨s27,s26,s17,s12,s8,-,-,s4,-⟩:=zl;refine act_put (d:=28) _ hs hd (by decide) [(4,_),(8,_),(12,_),(17,_),(22,_),(26,_),(27,_)] ⟨s4,s8,s12,s17,s22,s26,s27,trivial⟩ rfl ?_;clear hs hd s4 s8 s12 s17 s22 s26 s27;intro a hs hd zl;refine tail_op rfl (fun K hK=>?_);have q4:=gL zl 1;have q28:=gL zl 0;have s4:=vL zl 1;have s28:=vL zl 0;refine op_store_row 251 (.tmp 4) (.tmp 28) rfl y s4 (canCells C.ht C.rd z x.sec x.ns ch) s28 251 _ hy rfl (by kernel_rfl) (can_one _ _ _ _ _ _) ?_;clear q4 q28;refine hK _ _ ?_;clear hK K;change wpList _ _ _ _ a _;have hy2:=hy.setRow (canCells C.ht C.rd z x.sec x.ns ch);replace hbz:=hbz.setRow_far (show z≠y by omega) (canCells C.ht C.rd z x.sec x.ns ch);replace hB:=below_setRow hB hBy (canCells C.ht C.rd z x.sec x.ns ch);generalize World.setRow _ _ _=w4 at hy2 hB hbz⊢;clear s28;refine wp_ret ?_;exact end_row rfl y s4 hd.out 251 _ _ hy2 Tryz.underlying251 rfl (by kernel_rfl) ⟨z,rfl,Nat.le_trans hBN hzN,hbz,hB⟩
theorem c_canBidM(p:Int)(s r:HSl)(g:Nat)(w:World)(hg:Blk w g 260 #[s.v,.int .u32 p,r.v])(hp:0≤p∧p≤4294967295)(hs:s.ok w)(hr:r.ok w):
  Calls Tryz.prog 166 #[.pointer (some ⟨g,0,none⟩)] w (OutB w (bidL s.l p r.l)):=by
 have c0:w.cell? ⟨g,0,none⟩=some (.slice s.A s.l.length s.c):=by rw[hg.cell];rfl
 have c1:w.cell? ⟨g,1,none⟩=some (.int .u32 p):=by rw[hg.cell];rfl
 have c2:w.cell? ⟨g,2,none⟩=some (.slice r.A r.l.length r.c):=by rw[hg.cell];rfl
 have hlt:=hg.lt;have e1:IntKind.u64.wrap p=p:=IntWalk.u64_in _ (by omega);have hls:=hs.len;have hlr:=hr.len;have hrd:Bs w.drew r.A r.l:=hr.bs;have hsd:Bs w.drew s.A s.l:=hs.bs;have hW:Below w.heap.size w w:=Below.refl _ _
 go_enter Tryz.func166,Tryz.ntmps166
 go_upto_region 1 with (fail)
 go_region_held (fun w'=>Below (w).heap.size (w) w'∧∀b o,b<(w).heap.size→w'.cell? ⟨b,o,none⟩=(w).cell? ⟨b,o,none⟩) ((first|exact sx_drew0 _|exact sx_drew (by assumption)|exact sx_alloc (by assumption) _|exact sx_bytes (by assumption) _ _|exact sx_after (by assumption) (by assumption)|exact sx_own (by assumption) (by assumption) (by assumption) (by first|exact Nat.le_refl _|omega|(simp;omega))|exact sx_own (by assumption) (by assumption) (OwnB.after (by assumption) (by assumption)) (by first|exact Nat.le_refl _|omega|(simp;omega))))
  (first
   |(go_at_call 128;(with_reducible refine(c_putNumber0 _ _ _ (by omega) (by omega) (by omega)).mono ?_);rintro e w1 ⟨l1,A1,k1,hl1,rfl,ho1,hb1⟩)
   |(go_at_call 131;(with_reducible refine(c_putText _ _ ho1 hb1.size (by rw[hl1.out];have:=numL_len (1:Int).toNat p.toNat (by omega);omega) (by omega) (hrd.below hb1) (far_old hrd ho1 (Nat.le_refl _)) (by omega)).mono ?_);rintro e w2 ⟨l2,A2,k2,hl2,rfl,ho2,hg2,hat2⟩))
 have HH:= ‹Below w.heap.size w w2∧∀b o,b<w.heap.size→w2.cell? ⟨b,o,none⟩=w.cell? ⟨b,o,none⟩›;have _t:=Is.hid hat2;clear hat2;have hs2:Bs w2 s.A s.l:=hs.bs.below HH.1;have hn1:=numL_len (1:Int).toNat p.toNat (by omega);have hn2:=someL_len (2:Int).toNat r.l (by omega);have hn3:=someL_len (1:Int).toNat s.l (by omega);have hll:l2.length≤5000000000:=by rw[hl2.out,hl1.out,List.length_append];omega
 clear c1 c2
 go_wp2_with (first
   |(go_at_call 131;(with_reducible refine(c_putText0 _ _ (by omega) hs2 (by omega)).mono ?_);rintro e w3 ⟨l3,A3,k3,hl3,rfl,ho3,hb3⟩)
   |(go_at_call 130;(with_reducible refine(c_putMessage _ _ ho3 hb3.size (by rw[hl3.out];omega) (by omega) (ho2.bs.below hb3) (far_old ho2.bs ho3 (Nat.le_refl _)) (by omega)).mono ?_);rintro e w4 ⟨l4,A4,k4,hl4,rfl,ho4,hg4,hat4⟩))
 have _t4:=Is.hid hat4;clear hat4
 go_ret
 have hz:=HH.1.size;refine OutB.mk' (by rw[hl4.out,hl3.out,hl2.out,hl1.out];rfl) (ho4.less hz) (bz_then HH.1 (hb3.trans (ho3.below hb3.size hg4)))
theorem c_canM(ht rd sec ns bt:Int)(b r:HSl)(ch:ByteArray)(g z:Nat)(w:World)(hg:Blk w g 251 (canCells ht rd z sec ns ch))(hz:Blk w z 260 #[b.v,.int .u32 bt,r.v])(hbt:0≤bt∧bt≤4294967295)
  (hb:b.ok w)(hr:r.ok w)(hht:0≤ht∧ht≤9223372036854775807)(hrd:0≤rd∧rd≤9223372036854775807)(hsec:62135596800≤sec∧sec≤9000000000000000000)(hns:0≤ns∧ns≤2147483647)(hch:ch.size≤2200000000):
  Calls Tryz.prog 163 #[.pointer (some ⟨g,0,none⟩)] w (OutB w (cvL ht rd b.l bt r.l sec ns ch)):=by
 have c0:w.cell? ⟨g,0,none⟩=some (.int .i32 2):=by rw[hg.cell];rfl
 have c1:w.cell? ⟨g,1,none⟩=some (.int .i64 ht):=by rw[hg.cell];rfl
 have c2:w.cell? ⟨g,2,none⟩=some (.int .i64 rd):=by rw[hg.cell];rfl
 have c3:w.cell? ⟨g,3,none⟩=some (.pointer (some ⟨z,0,none⟩)):=by rw[hg.cell];rfl
 have c4:w.cell? ⟨g,4,none⟩=some (.int .i64 sec):=by rw[hg.cell];rfl
 have c5:w.cell? ⟨g,5,none⟩=some (.int .i32 ns):=by rw[hg.cell];rfl
 have c6:w.cell? ⟨g,6,none⟩=some (.string ch):=by rw[hg.cell];rfl
 have hlt:=hg.lt;have n1:=numL_len (1:Int).toNat (2:Int).toNat (by decide);have n2:=fixL_len (2:Int).toNat ht.toNat;have n3:=fixL_len (3:Int).toNat rd.toNat;have n4:=bidL_len b.l bt r.l hb.len hbt.2 hr.len;have n5:=withinL_len (4:Int).toNat (bidL b.l bt r.l) (by omega);have n6:=numL_len 1 (sec-62135596800).toNat (by omega);have n7:=numL_len 2 ns.toNat (by omega);have n8:=withinL_len (5:Int).toNat (numL 1 (sec-62135596800).toNat++numL 2 ns.toNat) (by rw[List.length_append];omega);rw[List.length_append]at n8;have hcl:=bytesOf_length ch;have kc:=fun(w:World)=>Lib.run_convert_string_bytes (P:=Tryz.prog) w 9 32 5 ch Tryz.underlying9 Tryz.underlying32 Tryz.underlying5
 go_enter Tryz.func163,Tryz.ntmps163
 go_wp2_with (first
   |((go_at_call 128;(with_reducible refine(c_putNumber0 _ _ _ (by omega) (by omega) (by omega)).mono ?_);rintro e w1 ⟨l1,A1,k1,hl1,rfl,ho1,hb1⟩);have HC1:=(bcell hb1).1;have m1:l1.length≤11:=(by rw[hl1.out];exact n1))
   |((go_at_call 165;(with_reducible refine(c_putFixed _ _ _ ho1 hb1.size (by omega) (by omega) hht).mono ?_);rintro e w2 ⟨l2,A2,k2,hl2,rfl,ho2,hg2,hat2⟩);have HB2:=hb1.trans (ho1.below hb1.size hg2);have HC2:=(bcell HB2).1;have m2:l2.length≤20:=(by rw[hl2.out,List.length_append];omega);have _t2:=Is.hid hat2;clear hat2)
   |((go_at_call 165;(with_reducible refine(c_putFixed _ _ _ ho2 HB2.size (by omega) (by omega) hrd).mono ?_);rintro e w3 ⟨l3,A3,k3,hl3,rfl,ho3,hg3,hat3⟩);have HB3:=HB2.trans (ho2.below HB2.size hg3);have HC3:=(bcell HB3).1;have m3:l3.length≤29:=(by rw[hl3.out,List.length_append];omega);have _t3:=Is.hid hat3;clear hat3)
   |((go_at_call 166;(with_reducible refine(c_canBidM bt b r z _ (hz.after HB3) hbt (hb.after HB3) (hr.after HB3)).mono ?_);rintro e w4 ⟨l4,A4,k4,hl4,rfl,ho4,hb4⟩);have HB4:=bz_then HB3 hb4;have HC4:=(bcell HB4).1)
   |((go_at_call 130;(with_reducible refine(c_putMessage _ _ (ho3.after hb4) HB4.size (by omega) (by omega) ho4.bs (far_new ho4 ho3 (Nat.le_refl _)) (by rw[hl4.out];omega)).mono ?_);rintro e w5 ⟨l5,A5,k5,hl5,rfl,ho5,hg5,hat5⟩);have HB5:=HB4.trans ((ho3.after hb4).below HB4.size hg5);have HC5:=(bcell HB5).1;have m5:l5.length≤6000000060:=(by rw[hl5.out,List.length_append,hl4.out];omega);have _t5:=Is.hid hat5;clear hat5)
   |((go_at_call 107;(with_reducible refine(c_TimeM sec ns _ hsec hns).mono ?_);rintro e w6 ⟨l6,A6,k6,hl6,rfl,ho6,hb6⟩);have HB6:=bz_then HB5 hb6;have HC6:=(bcell HB6).1)
   |((go_at_call 130;(with_reducible refine(c_putMessage _ _ (ho5.after hb6) HB6.size (by omega) (by omega) ho6.bs (far_new ho6 ho5 (Nat.le_refl _)) (by rw[hl6.out,List.length_append];omega)).mono ?_);rintro e w7 ⟨l7,A7,k7,hl7,rfl,ho7,hg7,hat7⟩);have HB7:=HB6.trans ((ho5.after hb6).below HB6.size hg7);have HC7:=(bcell HB7).1;have m7:l7.length≤6000000200:=(by rw[hl7.out,List.length_append,hl6.out];omega);have _t7:=Is.hid hat7;clear hat7))
 have HB8:=below_bytes HB7 HB7.size 5 ch;have ho8:=ho7.after (below_bytes (Below.refl w7.heap.size w7) (Nat.le_refl _) 5 ch);have hc:=c_putText (c2:=grownCap w7 ch.size 0 5) 6 _ ho8 HB8.size (by omega) (by omega) (bs_conv w7 5 ch) (fun _ e=>by
  cases hA:blkOf A7 with
  |none=>rw[hA]at e;cases e
  |some k=>
   have:=(ho7.blk_ge k hA).2;rw[hA]at e;injection e with e;have e:w7.heap.size=k:=e;omega) (by rw[bytesOf_length];omega)
 rw[bytesOf_length]at hc;refine hc.mono ?_;rintro e w9 ⟨l9,A9,k9,hl9,rfl,ho9,hg9,hat9⟩;have _t9:=Is.hid hat9;clear hat9
 go_wp2
 go_ret
 refine OutB.mk' (by rw[hl9.out,hl7.out,hl6.out,hl5.out,hl4.out,hl3.out,hl2.out,hl1.out];rfl) ho9 (HB8.trans (ho8.below HB8.size hg9))
theorem cvL_len(ht rd:Int)(s:List Int)(p:Int)(r:List Int)(sec ns:Int)(ch:ByteArray)(hs:s.length≤2200000000)(hp:p≤4294967295)(hr:r.length≤2200000000)(h1:62135596800≤sec∧sec≤9000000000000000000)(h2:0≤ns∧ns≤2147483647)(hch:ch.size≤2200000000):(cvL ht rd s p r sec ns ch).length≤9000000000:=by
 have n1:=numL_len 1 2 (by decide);have n2:=fixL_len 2 ht.toNat;have n3:=fixL_len 3 rd.toNat;have n4:=bidL_len s p r hs hp hr;have n5:=withinL_len 4 (bidL s p r) (by omega);have n6:=numL_len 1 (sec-62135596800).toNat (by omega);have n7:=numL_len 2 ns.toNat (by omega);have n8:=withinL_len 5 (numL 1 (sec-62135596800).toNat++numL 2 ns.toNat) (by rw[List.length_append];omega);have n9:=someL_len 6 (bytesOf ch) (by rw[bytesOf_length];omega);rw[List.length_append]at n8;rw[bytesOf_length]at n9;unfold cvL;simp only[List.length_append];omega
structure TmOk(sec ns:Int):Prop where
 sec:62135596800≤sec∧sec≤9000000000000000000
 ns:0≤ns∧ns≤2147483647
def Cm.vsb(C:Cm)(x:CS)(ch:ByteArray):List Int:=vsbL C.ht C.rd C.b.l C.bt C.bp.l x.sec x.ns ch
theorem c_VSBt(C:Cm)(x:CS)(g:Nat)(i:Int)(ch:ByteArray)(w:World)(hg:Blk w g 248 (voteCells C x i))(hCb:C.b.ok w)(hCp:C.bp.ok w)(hn:C.num)(ht:TmOk x.sec x.ns)(hch:ch.size≤2200000000):
  Calls Tryz.prog 154 #[.string ch,.pointer (some ⟨g,0,none⟩)] w fun e w'=>∃v,e=.returned v∧BsAt w.heap.size (C.vsb x ch) v w'∧Below w.heap.size w w':=by
 suffices h:∀w0,(Blk w0 g 248 (voteCells C x i))→(C.b.ok w0)→(C.bp.ok w0)→Below w0.heap.size w0 w→Calls Tryz.prog 154 #[.string ch,.pointer (some ⟨g,0,none⟩)] w fun e w'=>∃v,e=.returned v∧BsAt w0.heap.size (C.vsb x ch) v w'∧Below w0.heap.size w0 w' from h w hg hCb hCp (bz_refl w)
 clear hg hCb hCp;intro w0 hg hCb hCp hB;refine enter_abs Tryz.func154 rfl 11 rfl (by simp) ?_;intro a hs hd hargs;have s0:=hargs 0 _ rfl;have s1:=hargs 1 _ rfl;clear hargs;have hH:=Is.hid hn;clear hn;have hT:=Is.hid ht;clear ht;refine wp_seq ?_;refine wp_region_list ?_;show wpList _ _ _ [_] _ _
 refine tail_op rfl (fun K hK=>?_);go_simp;refine hK _ _ ?_;clear hK K;refine act_put (d:=4) _ hs hd (by decide) [(0,_),(1,_)] ⟨s0,s1,trivial⟩ rfl ?_;clear hs hd s0 s1;intro a hs hd zl;refine wn 2 ?_;clear hs hd zl;intro a hs hd zl;refine tail_op rfl (fun K hK=>?_);have q6:=gL zl 1;have q7:=gL zl 0;go_simp;refine(c_canVote C x g i ch _ (hg.after hB) hH.out).mono ?_;rintro e w3 ⟨z,rfl,hz,hbz,hb2⟩;clear q6 q7;refine hK _ _ (tP hs hd zl ?_);clear hK K hs hd zl;intro a hs hd zl;replace hB:=bz_then hB hb2;clear hb2 hz;refine tail_op rfl (fun K hK=>?_);go_simp;refine hK _ _ (tP hs hd zl ?_);clear hK K hs hd zl;intro a hs hd zl;refine tail_op rfl (fun K hK=>?_);have q5:=gL zl 0;have q8:=gL zl 1;have s5:=vL zl 0;have s8:=vL zl 1;refine op_store_row 251 (.tmp 5) (.tmp 8) rfl w3.heap.size s5 _ s8 251 _ (Blk.new w3 _ _) rfl (by kernel_rfl) (can_one _ _ _ _ _ _) ?_;clear q5 q8;refine hK _ _ ?_;clear hK K;change wpList _ _ _ _ a _;rw[setRow_alloc_at _ _ _ _ _ rfl];obtain⟨y,hE⟩:∃B,Is w3.heap.size B:=is_self _;generalize hw1:World.alloc w3 _=w1;have hy:Blk w1 y 251 (canCells C.ht C.rd z x.sec x.ns ch):=by rw[← hw1,← hE.out];exact Blk.new w3 _ _
 have hB1:Below w3.heap.size w3 w1:=by rw[← hw1];exact bz_alloc (bz_refl w3) _
 replace hB:=bz_then hB hB1;replace hbz:=hbz.after hB1;clear s5 s8;obtain⟨s5,s8,s7,s6,-,s0,s1,-⟩:=zl;rw[hE.out]at s5;clear hw1 hB1 hE;clear s0 s1 s6 s7 s8;refine wp_seq ?_;refine wp_region_list ?_;show wpList _ _ _ [_,_,_] _ _
 refine tail_op rfl (fun K hK=>?_);have q5:=gd s5;go_simp;have nr:=hH.out.rd;refine(c_canM C.ht C.rd x.sec x.ns C.bt C.b C.bp ch y z _ hy hbz hH.out.bt (hCb.after hB) (hCp.after hB) hH.out.ht ⟨nr.1,by omega⟩ hT.out.sec hT.out.ns hch).mono ?_;rintro e w5 ⟨l1,A1,k1,hl1,rfl,ho1,hb2⟩;have hlen:=cvL_len C.ht C.rd C.b.l C.bt C.bp.l x.sec x.ns ch hCb.len hH.out.bt.2 hCp.len hT.out.sec hT.out.ns hch;clear q5;refine hK _ _ ?_;clear hK K;refine act_put (d:=9) _ hs hd (by decide) [(5,_)] ⟨s5,trivial⟩ rfl ?_;clear hs hd s5;intro a hs hd zl;replace hB:=bz_then hB hb2;clear hb2 nr;refine tail_op rfl (fun K hK=>?_);have q9:=gL zl 0;go_simp;refine(c_delimited A1 k1 l1 _ ho1.bs (by rw[hl1.out];omega)).mono ?_;intro e w6 h;obtain⟨v,rfl,hv,hb3⟩:=(OutB.read h).at_ hB.size;clear q9;refine hK _ _ (tP hs hd zl ?_);clear hK K hs hd zl;intro a hs hd zl;replace hB:=bz_then hB hb3;clear hb3;refine wn 1 ?_;clear hs hd zl;intro a hs hd zl;rw[hl1.out]at hv;refine wp_ret ?_;exact end_tmp rfl hd (vL zl 0) ⟨_,rfl,hv,hB⟩
theorem c_VSB(C:Cm)(x:CS)(gc i:Nat)(ch:ByteArray)(w:World)(hC:C.at w gc)(hx:C.S[i]?=some x)(hfl:x.fl=2)(hi:i≤1000)(hn:C.num)(ht:TmOk x.sec x.ns)(hch:ch.size≤2200000000):
  Calls Tryz.prog 143 #[.pointer (some ⟨gc,0,none⟩),.string ch,.int .i32 (i:Int)] w fun e w'=>∃v,e=.returned v∧BsAt w.heap.size (C.vsb x ch) v w'∧Below w.heap.size w w':=by
 suffices h:∀w0,(C.at w0 gc)→Below w0.heap.size w0 w→Calls Tryz.prog 143 #[.pointer (some ⟨gc,0,none⟩),.string ch,.int .i32 (i:Int)] w fun e w'=>∃v,e=.returned v∧BsAt w0.heap.size (C.vsb x ch) v w'∧Below w0.heap.size w0 w' from h w hC (bz_refl w)
 clear hC;intro w0 hC hB;refine enter_abs Tryz.func143 rfl 14 rfl (by simp) ?_;intro a hs hd hargs;have s0:=hargs 0 _ rfl;have s1:=hargs 1 _ rfl;have s2:=hargs 2 _ rfl;clear hargs;have hH:=Is.hid hn;clear hn;have hT:=Is.hid ht;clear ht;have HX:=Is.hid hx;clear hx;have HF:=Is.hid hfl;clear hfl;refine wp_seq ?_;refine wp_region_list ?_;show wpList _ _ _ [_] _ _
 refine tail_op rfl (fun K hK=>?_);go_simp;refine hK _ _ ?_;clear hK K;refine act_put (d:=6) _ hs hd (by decide) [(0,_),(1,_),(2,_)] ⟨s0,s1,s2,trivial⟩ rfl ?_;clear hs hd s0 s1 s2;intro a hs hd zl;refine wn 2 ?_;clear hs hd zl;intro a hs hd zl;refine tail_op rfl (fun K hK=>?_);have q8:=gL zl 1;have q9:=gL zl 0;go_simp;refine(c_GetVote C x gc i _ (hC.after hB) HX.out HF.out hi).mono ?_;rintro e w3 ⟨g,rfl,hge,hg,hb2⟩;clear q8 q9;refine hK _ _ (tP hs hd zl ?_);clear hK K hs hd zl;intro a hs hd zl;replace hB:=bz_then hB hb2;clear hb2 hge;refine wn 3 ?_;clear hs hd zl;intro a hs hd zl;refine tail_op rfl (fun K hK=>?_);have q11:=gL zl 1;have q12:=gL zl 0;go_simp;refine(c_VSBt C x g i ch _ hg (hC.b.after hB) (hC.bp.after hB) hH.out hT.out hch).mono ?_;rintro e w6 ⟨v,rfl,hv,hb3⟩;have hv:=hv.less hB.size;clear q11 q12;refine hK _ _ (tP hs hd zl ?_);clear hK K hs hd zl;intro a hs hd zl;replace hB:=bz_then hB hb3;clear hb3;refine tail_op rfl (fun K hK=>?_);have q13:=gL zl 0;go_simp;clear q13;refine hK _ _ ?_;clear hK K;obtain⟨s13,s12,s11,s7,-,-,-,-,-,s1,-,-⟩:=zl;refine act_put (d:=6) _ hs hd (by decide) [(1,_),(7,_),(11,_),(12,_),(13,_)] ⟨s1,s7,s11,s12,s13,trivial⟩ rfl ?_;clear hs hd s1 s7 s11 s12 s13;intro a hs hd zl;refine wp_ret ?_;exact end_tmp rfl hd (vL zl 0) ⟨_,rfl,hv,hB⟩
theorem HSl.ok.arg{s:HSl}{w:World}(h:s.ok w):(s.A=none∧s.c=0∧Is s.l [])∨∃b o,s.A=some ⟨b,o,none⟩:=h.fm.arg
theorem HSl.ok.farB{s:HSl}{w:World}(h:s.ok w){B:Nat}(hB:w.heap.size≤B):Far s.A s.l (some B):=h.bs.far hB
def psL(key msg:List Int):List Int:=sha ([((key.length % 256:Nat):Int)]++key++msg)
theorem c_SumMany2(p s r:HSl)(g c:Nat)(T:TypeId)(w:World)(hp:p.ok w)(hsk:s.ok w)(hr:r.ok w)(hg:Blk w g T #[s.v,r.v])(hKt:KTab w 1)(h0:1<w.heap.size):
  Calls Tryz.prog 69 #[p.v,.slice (some ⟨g,0,none⟩) 2 c] w fun e w'=>∃v,e=.returned v∧BsAt w.heap.size (sha (p.l++s.l++r.l)) v w'∧Below w.heap.size w w':=by
 suffices h:∀w0,(p.ok w0)→(s.ok w0)→(r.ok w0)→(Blk w0 g T #[s.v,r.v])→(KTab w0 1)→(1<w0.heap.size)→Below w0.heap.size w0 w→Calls Tryz.prog 69 #[p.v,.slice (some ⟨g,0,none⟩) 2 c] w fun e w'=>∃v,e=.returned v∧BsAt w0.heap.size (sha (p.l++s.l++r.l)) v w'∧Below w0.heap.size w0 w' from h w hp hsk hr hg hKt h0 (bz_refl w)
 clear hp hsk hr hg hKt h0;intro w0 hp hsk hr hg hKt h0 hB;refine enter_abs Tryz.func69 rfl 24 rfl (by simp) ?_;intro a hs hd hargs;have s0:=hargs 0 _ rfl;have s1:=hargs 1 _ rfl;clear hargs;have H0:=Is.hid h0;have np:=Is.hid hp.len;have n1:=Is.hid hsk.len;have n2:=Is.hid hr.len;clear h0;refine wp_seq ?_;refine wp_region_list ?_;show wpList _ _ _ [_] _ _
 refine tail_op rfl (fun K hK=>?_);go_simp;refine hK _ _ ?_;clear hK K;refine act_put (d:=4) _ hs hd (by decide) [(0,_),(1,_)] ⟨s0,s1,trivial⟩ rfl ?_;clear hs hd s0 s1;intro a hs hd zl;refine wp_seq ?_;refine wp_region_list ?_;show wpList _ _ _ [_,_] _ _
 refine tail_op rfl (fun K hK=>?_);go_simp;refine(c_New _).mono ?_;rintro e w2 ⟨B,rfl,hwB,hb2,hD⟩;refine hK _ _ (tP hs hd zl ?_);clear hK K hs hd zl;intro a hs hd zl;have BB:=Nat.le_trans hB.size hwB;have hBK:B≠1:=by have:=H0.out;omega
 replace hB:=bz_then hB hb2;clear hb2 hwB;refine wn 3 ?_;clear hs hd zl;intro a hs hd zl;refine tail_op rfl (fun K hK=>?_);have q9:=gL zl 1;have q10:=gL zl 0;unfold HSl.v at q10;go_simp;refine(c_Write B p.c ([]) p.l p.A _ hp.arg hD (hp.after hB).bs (hp.farB BB) hp.cap (Bytes.nil) hp.b8 (by have:=np.out;have:=n1.out;have:=n2.out;first|omega|(simp only[List.length_append,List.length_nil];omega)|(simp;omega)) (hKt.after hB) hBK).mono ?_;rintro e w2 ⟨rfl,hg2,hD2⟩;clear q9 q10;refine hK _ _ (tP hs hd zl ?_);clear hK K hs hd zl;intro a hs hd zl;replace hB:=GB.below2 hB hg2 BB;replace hD:Dst _ B (p.l):=hD2;clear hg2 hD2;refine wn 3 ?_;clear hs hd zl;intro a hs hd zl;refine wp_block ?_;refine wp_loop_rounds 3 ?_;change Code.wp _ _ (Exit.then (Code.rounds _ _ _ 2) _) _ _;refine wn 1 ?_;clear hs hd zl;intro a hs hd zl;refine wp_seq ?_;refine wp_cond_true (vL zl 0) ?_;refine wp_skip ?_;refine wp_seq ?_;refine wp_block ?_;refine wp_seq ?_;have cc:=((hg.after hB).cell 0).trans (show _=some (.slice s.A s.l.length s.c)from rfl);refine wn 3 ?_;clear hs hd zl;intro a hs hd zl;clear cc;refine wn 2 ?_;clear hs hd zl;intro a hs hd zl;refine tail_op rfl (fun K hK=>?_);have q18:=gL zl 1;have q19:=gL zl 0;go_simp;refine(c_Write B s.c (p.l) s.l s.A _ hsk.arg hD (hsk.after hB).bs (hsk.farB BB) hsk.cap (hp.b8) hsk.b8 (by have:=np.out;have:=n1.out;have:=n2.out;first|omega|(simp only[List.length_append,List.length_nil];omega)|(simp;omega)) (hKt.after hB) hBK).mono ?_;rintro e w2 ⟨rfl,hg2,hD2⟩;clear q18 q19;refine hK _ _ (tP hs hd zl ?_);clear hK K hs hd zl;intro a hs hd zl;replace hB:=GB.below2 hB hg2 BB;replace hD:Dst _ B (p.l++s.l):=hD2;clear hg2 hD2;refine wn 1 ?_;clear hs hd zl;intro a hs hd zl;refine tail_op rfl (fun K hK=>?_);have q21:=gL zl 0;go_simp;clear q21;refine hK _ _ ?_;clear hK K;obtain⟨s21,-,-,-,-,-,-,-,s14,s13,s12,-,-,-,s5,-,-,-,-,-⟩:=zl;refine act_put (d:=14) _ hs hd (by decide) [(5,_),(12,_),(13,_),(21,_)] ⟨s5,s12,s13,s21,trivial⟩ rfl ?_;clear hs hd s5 s12 s13 s14 s21;intro a hs hd zl;obtain⟨s14,s5,s12,s13,s21,-⟩:=zl;replace s14:=s14.trans (show _=Value.int IntKind.i64 1 by kernel_rfl);clear s21;change Code.wp _ _ (Exit.then (Code.rounds _ _ _ 1) _) _ _;refine wp_seq ?_;refine wp_region_list ?_;show wpList _ _ _ [_] _ _
 refine tail_op rfl (fun K hK=>?_);have q13:=gd s13;have q14:=gd s14;go_simp;clear q13 q14;refine hK _ _ ?_;clear hK K;refine act_put (d:=15) _ hs hd (by decide) [(5,_),(12,_),(13,_),(14,_)] ⟨s5,s12,s13,s14,trivial⟩ rfl ?_;clear hs hd s5 s12 s13 s14;intro a hs hd zl;refine wp_seq ?_;refine wp_cond_true (vL zl 0) ?_;refine wp_skip ?_;refine wp_seq ?_;refine wp_block ?_;refine wp_seq ?_;have cc:=((hg.after hB).cell 1).trans (show _=some (.slice r.A r.l.length r.c)from rfl);refine wn 3 ?_;clear hs hd zl;intro a hs hd zl;clear cc;refine wn 2 ?_;clear hs hd zl;intro a hs hd zl;refine tail_op rfl (fun K hK=>?_);have q18:=gL zl 1;have q19:=gL zl 0;go_simp;refine(c_Write B r.c (p.l++s.l) r.l r.A _ hr.arg hD (hr.after hB).bs (hr.farB BB) hr.cap (hp.b8.append hsk.b8) hr.b8 (by have:=np.out;have:=n1.out;have:=n2.out;first|omega|(simp only[List.length_append,List.length_nil];omega)|(simp;omega)) (hKt.after hB) hBK).mono ?_;rintro e w2 ⟨rfl,hg2,hD2⟩;clear q18 q19;refine hK _ _ (tP hs hd zl ?_);clear hK K hs hd zl;intro a hs hd zl;replace hB:=GB.below2 hB hg2 BB;replace hD:Dst _ B (p.l++s.l++r.l):=hD2;clear hg2 hD2;refine wn 1 ?_;clear hs hd zl;intro a hs hd zl;refine tail_op rfl (fun K hK=>?_);have q21:=gL zl 0;go_simp;clear q21;refine hK _ _ ?_;clear hK K;obtain⟨s21,-,-,-,-,-,-,-,s5,s12,s13,s14,-⟩:=zl;refine act_put (d:=14) _ hs hd (by decide) [(5,_),(12,_),(13,_),(21,_)] ⟨s5,s12,s13,s21,trivial⟩ rfl ?_;clear hs hd s5 s12 s13 s14 s21;intro a hs hd zl;obtain⟨s14,s5,s12,s13,s21,-⟩:=zl;replace s14:=s14.trans (show _=Value.int IntKind.i64 2 by kernel_rfl);clear s21;change Code.wp _ _ (Exit.then (Code.rounds _ _ _ 0) _) _ _;refine wp_seq ?_;refine wp_region_list ?_;show wpList _ _ _ [_] _ _
 refine tail_op rfl (fun K hK=>?_);have q13:=gd s13;have q14:=gd s14;go_simp;clear q13 q14;refine hK _ _ ?_;clear hK K;refine act_put (d:=15) _ hs hd (by decide) [(5,_),(12,_),(13,_),(14,_)] ⟨s5,s12,s13,s14,trivial⟩ rfl ?_;clear hs hd s5 s12 s13 s14;intro a hs hd zl;refine wp_seq ?_;refine wp_cond_false (vL zl 0) ?_;refine wp_exit ?_;repeat refine then_exit ?_
 refine inBlock_exit ?_;refine wn 1 ?_;clear hs hd zl;intro a hs hd zl;refine tail_op rfl (fun K hK=>?_);have q22:=gL zl 0;go_simp;refine(c_DSum B (p.l++s.l++r.l) _ hD ((hp.b8.append hsk.b8).append hr.b8) (by have:=np.out;have:=n1.out;have:=n2.out;simp only[List.length_append];omega) (hKt.after hB) (by have:=H0.out;have:=hB.size;omega)).mono ?_;intro e w6 h;obtain⟨v,rfl,hv,hb2⟩:=h.read.at_ hB.size;clear q22;refine hK _ _ (tP hs hd zl ?_);clear hK K hs hd zl;intro a hs hd zl;replace hB:=bz_then hB hb2;clear hb2;refine wn 1 ?_;clear hs hd zl;intro a hs hd zl;refine wp_ret ?_;exact end_tmp rfl hd (vL zl 0) ⟨_,rfl,hv,hB⟩
theorem HSl.one_ok{w:World}{g:Nat}{T:TypeId}{x:Int}(h:Blk w g T #[.int .u8 x])(hx:U8 x):(⟨some ⟨g,0,none⟩,1,[x]⟩:HSl).ok w:=
 ⟨bs_u8s (l:=[x]) h,.inr ⟨_,_,rfl⟩,Nat.le_refl _,Bytes.cons hx Bytes.nil,(by show 1≤2200000000;decide),fun k hk=>by
  injection hk with hk;have hk:g=k:=hk;rw[← hk];exact h.lt⟩
theorem c_PlainSign(k m:HSl)(w:World)(hk:k.ok w)(hm:m.ok w)(hKt:KTab w 1)(h0:1<w.heap.size):
  Calls Tryz.prog 57 #[k.v,m.v] w fun e w'=>∃v,e=.returned v∧BsAt w.heap.size (psL k.l m.l) v w'∧Below w.heap.size w w':=by
 suffices h:∀w0,(k.ok w0)→(m.ok w0)→(KTab w0 1)→(1<w0.heap.size)→Below w0.heap.size w0 w→Calls Tryz.prog 57 #[k.v,m.v] w fun e w'=>∃v,e=.returned v∧BsAt w0.heap.size (psL k.l m.l) v w'∧Below w0.heap.size w0 w' from h w hk hm hKt h0 (bz_refl w)
 clear hk hm hKt h0;intro w0 hk hm hKt h0 hB;refine enter_abs Tryz.func57 rfl 13 rfl (by simp) ?_;intro a hs hd hargs;have s0:=hargs 0 _ rfl;have s1:=hargs 1 _ rfl;clear hargs;have H0:=Is.hid h0;clear h0;have ew:IntKind.u8.wrap ((k.l.length:Nat):Int)=((k.l.length % 256:Nat):Int):=by rw[IntKind.wrap_u8'];omega
 obtain⟨x,hx⟩:∃x,Is ((k.l.length % 256:Nat):Int) x:=is_self _;rw[hx.out]at ew;have hx8:U8 x:=by rw[← hx.out];unfold U8;omega
 unfold HSl.v at s0 s1;refine wp_seq ?_;refine wp_region_list ?_;show wpList _ _ _ [_] _ _
 refine tail_op rfl (fun K hK=>?_);go_simp;refine hK _ _ ?_;clear hK K;refine act_put (d:=4) _ hs hd (by decide) [(0,_),(1,_)] ⟨s0,s1,trivial⟩ rfl ?_;clear hs hd s0 s1;intro a hs hd zl;refine wn 3 ?_;clear hs hd zl;intro a hs hd zl;refine tail_op rfl (fun K hK=>?_);have q7:=gL zl 0;go_simp;clear q7;refine hK _ _ (tP hs hd zl ?_);clear hK K hs hd zl;intro a hs hd zl;obtain⟨b1,hE⟩:∃B,Is w.heap.size B:=is_self _;generalize hw1:World.alloc w _=w1;have hb1:Blk w1 b1 5 #[.int .u8 x]:=by rw[← hw1,← hE.out];exact Blk.new w _ _
 have hB1:Below w.heap.size w w1:=by rw[← hw1];exact bz_alloc (bz_refl w) _
 replace hB:=bz_then hB hB1;obtain⟨s8,s7,s6,s5,-,s0,s1,-⟩:=zl;rw[hE.out]at s8;clear hw1 hB1 hE;have ho1:=HSl.one_ok hb1 hx8;clear hb1;refine tail_op rfl (fun K hK=>?_);have q0:=gd s0;go_simp;clear q0;refine hK _ _ ?_;clear hK K;refine act_put (d:=9) _ hs hd (by decide) [(0,_),(1,_),(5,_),(6,_),(7,_),(8,_)] ⟨s0,s1,s5,s6,s7,s8,trivial⟩ rfl ?_;clear hs hd s0 s1 s5 s6 s7 s8;intro a hs hd zl;refine wn 1 ?_;clear hs hd zl;intro a hs hd zl;refine tail_op rfl (fun K hK=>?_);have q9:=gL zl 1;have q10:=gL zl 0;go_simp;clear q9 q10;refine hK _ _ (tP hs hd zl ?_);clear hK K hs hd zl;intro a hs hd zl;obtain⟨b2,hE⟩:∃B,Is w1.heap.size B:=is_self _;generalize hw1:World.alloc w1 _=w2;have hb2:Blk w2 b2 32 #[k.v,m.v]:=by rw[← hw1,← hE.out];exact Blk.new w1 _ _
 have hB1:Below w1.heap.size w1 w2:=by rw[← hw1];exact bz_alloc (bz_refl w1) _
 replace hB:=bz_then hB hB1;replace ho1:=ho1.after hB1;obtain⟨s11,s10,s9,s0,s1,s5,s6,s7,s8,-⟩:=zl;rw[hE.out]at s11;clear hw1 hB1 hE;refine tail_op rfl (fun K hK=>?_);have q8:=gd s8;have q11:=gd s11;go_simp;refine(c_SumMany2 ⟨some ⟨b1,0,none⟩,1,[x]⟩ k m b2 2 _ _ ho1 (hk.after hB) (hm.after hB) hb2 (hKt.after hB) (by have:=H0.out;have:=hB.size;omega)).mono ?_;rintro e w6 ⟨v,rfl,hv,hb3⟩;replace hv:=hv.less hB.size;clear q8 q11;refine hK _ _ ?_;clear hK K;refine act_put (d:=12) _ hs hd (by decide) [(0,_),(1,_),(5,_),(6,_),(7,_),(8,_),(9,_),(10,_),(11,_)] ⟨s0,s1,s5,s6,s7,s8,s9,s10,s11,trivial⟩ rfl ?_;clear hs hd s0 s1 s5 s6 s7 s8 s9 s10 s11;intro a hs hd zl;replace hB:=bz_then hB hb3;clear hb3;refine wn 1 ?_;clear hs hd zl;intro a hs hd zl;rw[← hx.out]at hv;refine wp_ret ?_;exact end_tmp rfl hd (vL zl 0) ⟨_,rfl,hv,hB⟩
theorem c_iSigned(key:ByteArray)(m:HSl)(w:World)(hkl:key.size≤2200000000)(hm:m.ok w)(hKt:KTab w 1)(h0:1<w.heap.size):
  Calls Tryz.prog 37 #[.string key,m.v] w fun e w'=>∃v,e=.returned v∧BsAt w.heap.size (psL (bytesOf key) m.l) v w'∧Below w.heap.size w w':=by
 suffices h:∀w0,(m.ok w0)→(KTab w0 1)→(1<w0.heap.size)→Below w0.heap.size w0 w→Calls Tryz.prog 37 #[.string key,m.v] w fun e w'=>∃v,e=.returned v∧BsAt w0.heap.size (psL (bytesOf key) m.l) v w'∧Below w0.heap.size w0 w' from h w hm hKt h0 (bz_refl w)
 clear hm hKt h0;intro w0 hm hKt h0 hB;refine enter_abs Tryz.func37 rfl 9 rfl (by simp) ?_;intro a hs hd hargs;have s0:=hargs 0 _ rfl;have s1:=hargs 1 _ rfl;clear hargs;have H0:=Is.hid h0;clear h0;have kc:=fun(w:World)=>Lib.run_convert_string_bytes (P:=Tryz.prog) w 9 32 5 (key) Tryz.underlying9 Tryz.underlying32 Tryz.underlying5
 refine wp_seq ?_;refine wp_region_list ?_;show wpList _ _ _ [_] _ _
 refine tail_op rfl (fun K hK=>?_);go_simp;refine hK _ _ ?_;clear hK K;refine act_put (d:=4) _ hs hd (by decide) [(0,_),(1,_)] ⟨s0,s1,trivial⟩ rfl ?_;clear hs hd s0 s1;intro a hs hd zl;refine wp_seq ?_;obtain⟨-,s0,s1,-⟩:=zl;refine fl2 (F:=[(0,_),(1,_)]) [.eq 5 _,FItem.bs 6 0 (bytesOf key)] 2 hs hd ⟨s0,s1,trivial⟩
  ⟨sP bq,
   (stp rfl fun a u hb hs hl hd K hK=>by
    have s5:=gD hd 0;clear hd;go_simp;exact hK _ _ (bz_bytes (bz_refl _) _ _) (bs_put hs (by decide) (conv_at _ _ _))),
   trivial⟩ ?_
 clear hs hd s0 s1;intro a w hb hs hd zl hh;have i6:=FItem.bs_holds.1 (hold_get hh 1);obtain⟨v6,s6⟩:∃v,a.tmps.getD 6 undef=v:=⟨_,rfl⟩;rw[s6]at i6;clear hh;replace hB:=bz_then hB hb;clear hb;show wpList _ _ _ [_,_,_] _ _
 refine tail_op rfl (fun K hK=>?_);have q1:=gL zl 1;go_simp;clear q1;refine hK _ _ ?_;clear hK K;obtain⟨-,s1,-⟩:=zl;refine act_put (d:=7) _ hs hd (by decide) [(1,_),(6,_)] ⟨s1,s6,trivial⟩ rfl ?_;clear hs hd s1 s6;intro a hs hd zl;refine tail_op rfl (fun K hK=>?_);have q6:=gL zl 2;have q7:=gL zl 0;obtain⟨k,rfl,hk,hkl2⟩:=i6.sl (bytesOf_bytes _) (by rw[bytesOf_length];exact hkl);go_simp;refine(c_PlainSign k m _ hk (hm.after hB) (hKt.after hB) (by have:=H0.out;have:=hB.size;omega)).mono ?_;rintro e w6 ⟨v,rfl,hv,hb3⟩;replace hv:=hv.less hB.size;rw[hkl2.out]at hv;clear q6 q7;refine hK _ _ (tP hs hd zl ?_);clear hK K hs hd zl;intro a hs hd zl;replace hB:=bz_then hB hb3;clear hb3;refine wn 1 ?_;clear hs hd zl;intro a hs hd zl;refine wp_ret ?_;exact end_tmp rfl hd (vL zl 0) ⟨_,rfl,hv,hB⟩
theorem psL_bytes(k m:List Int):Bytes (psL k m):=sha_bytes _
theorem c_Verify(k m sg:HSl)(av bv:Value)(w:World)(hav:av.oneCell'=true)(hbv:bv.oneCell'=true)(hk:k.ok w)(hm:m.ok w)(hsg:sg.ok w)(hKt:KTab w 1)(h0:1<w.heap.size):
  Calls Tryz.prog 195 #[.agg #[k.v,av,bv],m.v,sg.v] w fun e w'=>e=.returned (.bool (decide (sg.l=psL k.l m.l)))∧Below w.heap.size w w':=by
 suffices h:∀w0,(k.ok w0)→(m.ok w0)→(sg.ok w0)→(KTab w0 1)→(1<w0.heap.size)→Below w0.heap.size w0 w→Calls Tryz.prog 195 #[.agg #[k.v,av,bv],m.v,sg.v] w fun e w'=>e=.returned (.bool (decide (sg.l=psL k.l m.l)))∧Below w0.heap.size w0 w' from h w hk hm hsg hKt h0 (bz_refl w)
 clear hk hm hsg hKt h0;intro w0 hk hm hsg hKt h0 hB;refine enter_abs Tryz.func195 rfl 15 rfl (by simp) ?_;intro a hs hd hargs;have s0:=hargs 0 _ rfl;have s1:=hargs 1 _ rfl;have s2:=hargs 2 _ rfl;clear hargs;have H0:=Is.hid h0;clear h0;refine wp_seq ?_;refine wp_region_list ?_;show wpList _ _ _ [_,_] _ _
 refine tail_op rfl (fun K hK=>?_);have q0:=gd s0;go_simp;clear q0;refine hK _ _ ?_;clear hK K;refine act_put (d:=3) _ hs hd (by decide) [(0,_),(1,_),(2,_)] ⟨s0,s1,s2,trivial⟩ rfl ?_;clear hs hd s0 s1 s2;intro a hs hd zl;obtain⟨g,hE⟩:∃B,Is w.heap.size B:=is_self _;generalize hw1:World.alloc w _=w1;have hg:Blk w1 g 159 #[k.v,av,bv]:=by rw[← hw1,← hE.out];exact Blk.new w _ _
 have hB1:Below w.heap.size w w1:=by rw[← hw1];exact bz_alloc (bz_refl w) _
 replace hB:=bz_then hB hB1;obtain⟨s3,s0,s1,s2,-⟩:=zl;rw[hE.out]at s3;clear hw1 hB1 hE;refine tail_op rfl (fun K hK=>?_);go_simp;refine hK _ _ ?_;clear hK K;refine act_put (d:=6) _ hs hd (by decide) [(0,_),(1,_),(2,_),(3,_)] ⟨s0,s1,s2,s3,trivial⟩ rfl ?_;clear hs hd s0 s1 s2 s3;intro a hs hd zl;have c0:w1.cell? ⟨g,0,none⟩=some (.slice k.A k.l.length k.c):=by rw[hg.cell];rfl
 obtain⟨-,-,s1,s2,s3,-⟩:=zl;unfold HSl.v at s1 s2;refine wp_seq ?_;refine fl2 (F:=[(1,_),(2,_),(3,_)]) [.eq 7 (.slice sg.A sg.l.length sg.c),.eq 8 (.string (strOfNums sg.l)),.eq 9 _,.eq 10 _,.eq 11 (.slice m.A m.l.length m.c),FItem.bs 12 0 (psL k.l m.l),.eq 13 (.string (strOfNums (psL k.l m.l)))] 7 hs hd ⟨s1,s2,s3,trivial⟩
  ⟨sP bq,
   (stp rfl fun a u hb hs hl hd K hK=>by
    have s7:=gD hd 0;have c0:=cell_up hb c0;clear hd;have h1:=run_conv_bs hsg.fm (hsg.after (bz_then hB hb)).bs 32 9 Tryz.underlying32 Tryz.underlying9;go_simp;exact kE hK hs),
   sP bq,
   sP bq,
   sP bq,
   (stp rfl fun a u hb hs hl hd K hK=>by
    have s10:=gD hd 3;have s11:=gD hd 4;have c0:=cell_up hb c0;clear hd;go_simp;refine(c_PlainSign k m _ (hk.after (bz_then hB hb)) (hm.after (bz_then hB hb)) (hKt.after (bz_then hB hb)) (by have:=H0.out;have:=(bz_then hB hb).size;omega)).mono ?_;rintro e w6 ⟨v,rfl,hv,hb3⟩;exact hK _ _ hb3 (bs_put hs (by decide) (hv.less (Nat.zero_le _)))),
   (stp rfl fun a u hb hs hl hd K hK=>by
    have i12:=FItem.bs_holds.1 (dep_get0 hd 5 (by kernel_rfl));obtain⟨v12,e12⟩:∃v,Is (a.tmps.getD 12 undef) v:=is_self _;rw[e12.out]at i12;have s12:=gd e12.out;have c0:=cell_up hb c0;clear hd;obtain⟨x12,A12,k12,hx12,rfl,f12,n12,b12,-⟩:=i12;have h2:=run_conv_bs f12 b12 32 9 Tryz.underlying32 Tryz.underlying9;go_simp;rw[hx12.out];exact kE hK hs),
   trivial⟩ ?_
 clear hs hd s1 s2 s3;intro a w hb hs hd zl hh;replace zl:=lH hh 1 zl;replace zl:=lH hh 6 zl;clear hh;replace hg:=hg.after hb;replace c0:=cell_up hb c0;replace hB:=bz_then hB hb;clear hb;refine wn 2 ?_;clear hs hd zl;intro a hs hd zl;refine wp_ret ?_;exact end_tmp rfl hd (vL zl 0) ⟨by rw[← eqB_str hsg.b8 (psL_bytes _ _)];rfl,hB⟩
end Go.Proofs.YtjhnnjhaklohhaaGreatDoor
