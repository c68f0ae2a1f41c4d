/- The reference's Sum. (Printed by gen_ssumi.py.) The reference's tree: a leaf, an inner node. (Printed by gen_sroot.py.) The reference's tree: Root. (Printed by gen_sroot.py.) Lists of byte slices that a call makes: one slice put behind; how such a list reads. A slot that holds a list of byte slices, for drawn regions. A header's parts: its cells in the reference and in the thin package, its fourteen leaves. A list of leaves that a call makes: the slice of slices its own, the bytes in other blocks. Lists of structs: rows of cells, read and owned; one loaded, one put behind. Seats: their cells; lists of them. The reference's sum of a set. (Printed by gen_seatsum.py.) -/
import Derived.Test.YtcmllcmcbamlbaaDoorM8
import Derived.Test.YtcmllcmcbamlbaaDoorM2
set_option linter.unusedVariables false
set_option linter.unusedSimpArgs false
namespace Go.Proofs.YtcmllcmcbamlbaaDoor
open Go.RowKit

set_option maxHeartbeats 4000000 in
set_option maxRecDepth 100000 in
/-- The reference's Sum is SHA-256. -/
theorem c_specSum (A : Option Addr) (c : Nat) (l : List Int) (w : World) (hl : Bs w A l) (hl8 : Bytes l) (hlen : l.length ≤ 900000000000) :
  Calls Tryd.prog 10 #[.slice A l.length c] w (OutB w (sha l)) := by
 obtain ⟨n, hn⟩ : ∃ n, Is l.length n := is_self _
 have hn2 : n ≤ 900000000000 := by rw [← hn.out]; exact hlen
 suffices h : ∀ w0, Below w0.heap.size w0 w → Calls Tryd.prog 10 #[.slice A l.length c] w (OutB w0 (sha l)) from h w (bz_refl w)
 intro w0 hB
 refine enter_abs Tryd.func10 rfl 300 rfl (by simp) ?_
 intro a hs hd hargs
 have s0 := hargs 0 _ rfl
 clear hargs
 refine wp_seq ?_
 refine wp_region_list ?_
 show wpList _ _ _ [_] _ _
 refine tail_op rfl (fun K hK => ?_)
 go_simp
 refine hK _ _ ?_
 clear hK K
 refine act_put (d := 2) _ hs hd (by decide) [(0, _)] ⟨s0, trivial⟩ rfl ?_
 clear hs hd s0
 intro a hs hd zl
 refine wp_seq ?_
 refine wp_region_list ?_
 show wpList _ _ _ [_, _, _] _ _
 refine tail_op rfl (fun K hK => ?_)
 go_simp
 refine (c_begin _).mono ?_
 rintro e w2 ⟨rfl, hb2⟩
 refine hK _ _ (tP hs hd zl ?_)
 clear hK K hs hd zl
 intro a hs hd zl
 replace hB := bz_then hB hb2
 replace hl := hl.after hb2
 clear hb2
 refine tail_op rfl (fun K hK => ?_)
 go_simp
 refine hK _ _ (tP hs hd zl ?_)
 clear hK K hs hd zl
 intro a hs hd zl
 obtain ⟨H, hE⟩ : ∃ B, Is w2.heap.size B := is_self _
 have HB := Nat.le_trans hB.size (Nat.le_of_eq hE.out)
 have hlK : Far A l (some H) := hl.far (Nat.le_of_eq hE.out)
 generalize hw1 : World.alloc w2 _ = w1
 have hH : Blk w1 H 61 (zs32 8) := by rw [← hw1, ← hE.out]; exact Blk.new w2 _ _
 have hB1 : Below w2.heap.size w2 w1 := by rw [← hw1]; exact bz_alloc (bz_refl w2) _
 replace hB := bz_then hB hB1
 replace hl := hl.after hB1
 obtain ⟨s3, s27, -, s0, -⟩ := zl
 rw [hE.out] at s3
 clear hw1 hB1 hE
 refine tail_op rfl (fun K hK => ?_)
 have q3 := gd s3
 have q27 := gd s27
 refine op_store_row 61 (.tmp 3) (.tmp 27) rfl H s3 (st8 sha0) s27 _ _ hH (by kernel_rfl) (by kernel_rfl) (one_u32 [sha0.a, sha0.b, sha0.c, sha0.d, sha0.e, sha0.f, sha0.g, sha0.h]) ?_
 clear q3 q27
 refine hK _ _ ?_
 clear hK K
 change wpList _ _ _ _ a _
 have hgs := gb_setRow w1 H (st8 sha0)
 replace hB := GB.below2 hB hgs HB
 replace hl := hl.grown hgs hlK
 replace hH := hH.setRow (st8 sha0)
 clear hgs hlK
 revert hB hl hH 
 generalize World.setRow _ _ _ = w
 intro hB hl hH
 clear s27
 refine wp_seq ?_
 refine wp_region_list ?_
 show wpList _ _ _ [_, _, _] _ _
 refine tail_op rfl (fun K hK => ?_)
 go_simp
 refine (c_rounds _).mono ?_
 rintro e w2 ⟨rfl, hb2⟩
 refine hK _ _ ?_
 clear hK K
 refine act_put (d := 28) _ hs hd (by decide) [(0, _), (3, _)] ⟨s0, s3, trivial⟩ rfl ?_
 clear hs hd s0 s3
 intro a hs hd zl
 replace hB := bz_then hB hb2
 replace hl := hl.after hb2
 replace hH := hH.after hb2
 clear hb2
 refine tail_op rfl (fun K hK => ?_)
 go_simp
 refine hK _ _ (tP hs hd zl ?_)
 clear hK K hs hd zl
 intro a hs hd zl
 obtain ⟨KR, hE⟩ : ∃ B, Is w2.heap.size B := is_self _
 have KRB := Nat.le_trans hB.size (Nat.le_of_eq hE.out)
 have hHK : H ≠ KR := by have := hH.lt; rw [← hE.out]; omega
 have hlK : Far A l (some KR) := hl.far (Nat.le_of_eq hE.out)
 generalize hw1 : World.alloc w2 _ = w1
 have hKb : Blk w1 KR 63 (zs32 64) := by rw [← hw1, ← hE.out]; exact Blk.new w2 _ _
 have hB1 : Below w2.heap.size w2 w1 := by rw [← hw1]; exact bz_alloc (bz_refl w2) _
 replace hB := bz_then hB hB1
 replace hl := hl.after hB1
 replace hH := hH.after hB1
 obtain ⟨s4, s28, s0, s3, -⟩ := zl
 rw [hE.out] at s4
 clear hw1 hB1 hE
 refine tail_op rfl (fun K hK => ?_)
 have q4 := gd s4
 have q28 := gd s28
 refine op_store_row 63 (.tmp 4) (.tmp 28) rfl KR s4 (k64) s28 _ _ hKb (by kernel_rfl) (by kernel_rfl) (one_u32 kTab) ?_
 clear q4 q28
 refine hK _ _ ?_
 clear hK K
 change wpList _ _ _ _ a _
 have hgs := gb_setRow w1 KR (k64)
 replace hB := GB.below2 hB hgs KRB
 replace hl := hl.grown hgs hlK
 replace hKb := hKb.setRow (k64)
 replace hH := hH.gbfar hgs hHK.symm
 clear hgs hlK
 revert hB hl hKb hH
 generalize World.setRow _ _ _ = w
 intro hB hl hKb hH
 clear s28
 refine wp_seq ?_
 refine fl2 (F := [(0, _), (3, _), (4, _)]) [.eq 29 _, .eq 30 _] 2 hs hd ⟨s0, s3, s4, trivial⟩
  ⟨(stp rfl fun a u hb hs hl hd K hK => by have s0 := gL hl 0; clear hd; go_simp; exact kE hK hs),
   (stp rfl fun a u hb hs hl hd K hK => by have s29 := gD hd 0; clear hd; go_simp; exact kE hK hs),
   trivial⟩ ?_
 clear hs hd s0 s3 s4
 intro a w hb hs hd zl hh
 replace zl := lH hh 1 zl
 clear hh
 replace hl := hl.after hb
 replace hH := hH.after hb
 replace hKb := hKb.after hb
 replace hB := bz_then hB hb
 clear hb
 show wpList _ _ _ [_] _ _
 refine tail_op rfl (fun K hK => ?_)
 have q30 := gL zl 0
 go_simp
 clear q30
 refine hK _ _ (tP hs hd zl ?_)
 clear hK K hs hd zl
 intro a hs hd zl
 obtain ⟨s5, -, s0, s3, s4, -⟩ := zl
 rw [hn.out] at s5
 obtain ⟨B1, hB1⟩ : ∃ B, Is w.heap.size B := is_self _
 have hSS : SS w0 w B1 H KR sha0 := ⟨hB, hH, hKb, HB, KRB, hHK, by rw [← hB1.out]; exact hH.lt, by rw [← hB1.out]; exact hKb.lt, Nat.le_of_eq hB1.out.symm⟩
 clear hB hH hKb
 refine wp_seq ?_
 refine fl2 (F := [(0, _), (3, _), (4, _), (5, _)]) [.eq 31 _] 1 hs hd ⟨s0, s3, s4, s5, trivial⟩
  ⟨(stp rfl fun a u hb hs hl hd K hK => by have s0 := gL hl 0; clear hd; go_simp; exact kE hK hs),
   trivial⟩ ?_
 clear hs hd s0 s3 s4 s5
 intro a w hb hs hd zl hh
 replace zl := lH hh 0 zl
 clear hh
 replace hl := hl.after hb
 replace hSS := hSS.after hb
 clear hb
 show wpList _ _ _ [_, _, _, _] _ _
 refine tail_op rfl (fun K hK => ?_)
 have q31 := gL zl 0
 have s31 := vL zl 0
 refine op_app_u8 (.const (Value.slice none 0 0)) (.tmp 31) rfl (l := []) (l2 := l) rfl s31 (OwnB.nil B1 _) hl (by simp only [List.length_nil]; omega) hSS.2.2.2.2.2.2.2.2 ?_
 intro l1 A1 c1 w2 hl1 hn1 hown1 hbel _ _
 clear q31
 refine hK _ _ (tP hs hd zl ?_)
 clear hK K hs hd zl s31
 intro a hs hd zl
 replace hSS := hSS.step hbel
 clear hbel hl
 refine tail_op rfl (fun K hK => ?_)
 go_simp
 refine hK _ _ (tP hs hd zl ?_)
 clear hK K hs hd zl
 intro a hs hd zl
 have hb1 := bs_one w2 5 128
 have hal := bz_alloc (bz_refl w2) (.cells #[.int .u8 128] 5)
 replace hSS := hSS.after hal
 replace hown1 := hown1.after hal
 clear hal
 refine tail_op rfl (fun K hK => ?_)
 have q32 := gL zl 1
 have q33 := gL zl 0
 have s32 := vL zl 1
 have s33 := vL zl 0
 refine op_app_u8 (.tmp 32) (.tmp 33) rfl (l2 := [128]) (c2 := 1) s32 s33 hown1 hb1 (by simp only [List.length_nil, List.length_cons] at hn1 ⊢; omega) hSS.2.2.2.2.2.2.2.2 ?_
 intro P1 A2 c2 w3 hP1 _ hown2 hbel2 _ _
 clear q32 q33
 refine hK _ _ (tP hs hd zl ?_)
 clear hK K hs hd zl s32 s33
 intro a hs hd zl
 replace hSS := hSS.step hbel2
 replace hP1 : Is P1 (l ++ 128 :: List.replicate 0 0) := by unfold Is; rw [hP1.out, hl1.out]; rfl
 clear hbel2 hb1 hown1 hn1 hl1
 refine tail_op rfl (fun K hK => ?_)
 have q34 := gL zl 0
 go_simp
 clear q34
 refine hK _ _ (tP hs hd zl ?_)
 clear hK K hs hd zl
 intro a hs hd zl
 refine wp_seq ?_
 refine wp_block ?_
 obtain ⟨s6, -, -, -, -, s0, s3, s4, s5, -⟩ := zl
 refine ss_pad (n := n) a _ hs hd s0 s3 s4 s5 s6 hP1 hn hn2 hSS hown2 ?_
 clear hs hd s0 s3 s4 s5 s6 hSS hown2 hP1
 rintro a w A3 c3 P2 hP2 hs hd ⟨s0, s3, s4, s5, s6, -⟩ hSS hown
 refine inBlock_exit ?_
 obtain ⟨L8, hL⟩ : ∃ L8, Is (8 * n) L8 := is_self _
 have hMl : (l ++ 128 :: List.replicate (shaZeros n) 0 : List Int).length ≤ 900000000100 := by
  rw [List.length_append, List.length_cons, List.length_replicate, hn.out]; unfold shaZeros; omega
 refine wp_seq ?_
 refine wp_seq ?_
 refine wp_region_list ?_
 show wpList _ _ _ [_] _ _
 refine tail_op rfl (fun K hK => ?_)
 go_simp
 refine hK _ _ ?_
 clear hK K
 refine act_put (d := 42) _ hs hd (by decide) [(0, _), (3, _), (4, _), (5, _), (6, _)] ⟨s0, s3, s4, s5, s6, trivial⟩ rfl ?_
 clear hs hd s0 s3 s4 s5 s6
 intro a hs hd zl
 refine wp_block ?_
 obtain ⟨s42, s0, s3, s4, s5, s6, -⟩ := zl
 refine ss_len (n := n) a _ hs hd s0 s3 s4 s5 s6 s42 hP2 hL hMl hn2 hSS hown ?_
 clear hs hd s0 s3 s4 s5 s6 s42 hSS hown
 rintro a w A4 c4 P3 hP3 hs hd ⟨s0, s3, s4, s5, s6, -⟩ hSS hown
 refine inBlock_exit ?_
 have hpad : P3 = padded l := by rw [hP3.out, ← hL.out, ← hn.out]; unfold padded shaTail; simp
 have hP3l : P3.length ≤ 1000000000000 := by rw [hP3.out, List.length_append]; simp only [be64, List.length_cons, List.length_nil]; omega
 have hPm : P3.length % 64 = 0 := by rw [hpad]; exact padded_mod l
 have hP8 : Bytes P3 := by rw [hpad]; exact hl8.append (shaTail_bytes _)
 have hpadH := Is.hid hpad
 have hpos : P3 ≠ [] := by intro e; rw [e] at hpad; unfold padded shaTail at hpad; simp at hpad
 clear hpad
 obtain ⟨b, cur, rfl, hbB, -, -, -, -, -⟩ := hown.form.resolve_left (fun h => hpos h.2.2)
 have hM : BytesAt w b 0 P3 0 P3.length := fun j hj => by
  obtain ⟨b', o', e, _, hc⟩ := hown.bs j hj
  injection e with e
  injection e with e1 e2
  subst e1 e2
  rw [show P3.getD (0 + j) 0 = P3.getD j 0 by rw [Nat.zero_add]]
  exact hc
 refine wp_seq ?_
 refine wp_region_list ?_
 show wpList _ _ _ [_] _ _
 refine tail_op rfl (fun K hK => ?_)
 go_simp
 refine hK _ _ ?_
 clear hK K
 refine act_put (d := 8) _ hs hd (by decide) [(0, _), (3, _), (4, _), (5, _), (6, _)] ⟨s0, s3, s4, s5, s6, trivial⟩ rfl ?_
 clear hs hd s0 s3 s4 s5 s6
 intro a hs hd zl
 refine wp_seq ?_
 refine wp_seq ?_
 refine wp_region_list ?_
 show wpList _ _ _ [_] _ _
 refine tail_op rfl (fun K hK => ?_)
 go_simp
 refine hK _ _ (tP hs hd zl ?_)
 clear hK K hs hd zl
 intro a hs hd zl
 refine wp_block ?_
 obtain ⟨s9, s8, s0, s3, s4, s5, s6, -⟩ := zl
 refine ss_blocks (n := n) (N := P3.length) a _ hs hd s0 s3 s4 s5 s6 s8 s9 hPm hP3l hP8 hbB hSS hM ?_
 clear hs hd s0 s3 s4 s5 s6 s8 s9 hSS hM hown
 rintro a w hs hd ⟨s0, s3, s4, s5, s6, s8, -⟩ hSS
 refine inBlock_exit ?_
 obtain ⟨S, hS⟩ : ∃ S, Is (shaBlks P3 0 (P3.length / 64) sha0) S := is_self _
 rw [hS.out] at hSS
 have hU : St32 S := by rw [← hS.out]; exact shaBlks_U32 _ _ _ _ sha0_U32
 refine wp_seq ?_
 refine wp_region_list ?_
 show wpList _ _ _ [_] _ _
 refine tail_op rfl (fun K hK => ?_)
 go_simp
 refine hK _ _ ?_
 clear hK K
 refine act_put (d := 24) _ hs hd (by decide) [(3, _)] ⟨s3, trivial⟩ rfl ?_
 clear hs hd s3
 intro a hs hd zl
 refine wp_seq ?_
 refine wp_seq ?_
 refine wp_region_list ?_
 show wpList _ _ _ [_, _] _ _
 refine tail_op rfl (fun K hK => ?_)
 have q3 := gL zl 1
 have s3 := vL zl 1
 refine op_load_row 61 (.tmp 3) rfl H s3 _ _ _ hSS.2.1 rfl rfl (show _ = some 8 by kernel_rfl) ?_
 clear q3
 refine hK _ _ (tP hs hd zl ?_)
 clear hK K hs hd zl s3
 intro a hs hd zl
 refine tail_op rfl (fun K hK => ?_)
 go_simp
 refine hK _ _ (tP hs hd zl ?_)
 clear hK K hs hd zl
 intro a hs hd zl
 refine wp_block ?_
 have s24 := vL zl 2
 have s280 := vL zl 1
 have s281 := vL zl 0
 refine ss_out (S := S) (w0 := w0) a _ hs hd s24 s280 s281 hU hSS.1 ?_
 clear hs hd s24 s280 s281 hSS
 obtain ⟨-, -, -, -, -⟩ := zl
 rintro a w A5 c5 P5 hP5 hs hd ⟨s24, -⟩ hB hown5
 refine inBlock_exit ?_
 refine wp_seq ?_
 refine fl2 (F := [(24, _)]) [.eq 299 _] 1 hs hd ⟨s24, trivial⟩
  ⟨(stp rfl fun a u hb hs hl hd K hK => by have s24 := gL hl 0; clear hd; go_simp; exact kE hK hs),
   trivial⟩ ?_
 clear hs hd s24
 intro a w hb hs hd zl hh
 replace zl := lH hh 0 zl
 clear hh
 replace hown5 := hown5.after hb
 replace hB := bz_then hB hb
 clear hb
 show wpList _ _ _ [_] _ _
 refine tail_op rfl (fun K hK => ?_)
 have q299 := gL zl 0
 go_simp
 clear q299
 refine hK _ _ (tP hs hd zl ?_)
 clear hK K hs hd zl
 intro a hs hd zl
 refine wp_ret ?_
 have he : P5 = sha l := by rw [hP5.out]; unfold sha; rw [← hpadH.out, hS.out]
 exact end_tmp rfl hd (vL zl 0) (OutB.mk' he hown5 hB)
end Go.Proofs.YtcmllcmcbamlbaaDoor
namespace Go.Proofs.YtcmllcmcbamlbaaDoor
open Go.RowKit
theorem own_one {w : World} {base g : Nat} {x : Int} (h : Blk w g 5 #[.int .u8 x]) (hb : base ≤ g) : OwnB base w (some ⟨g, 0, none⟩) 1 [x] :=
 ⟨rfl, .inr ⟨g, 1, _, rfl, hb, h, Nat.le_refl _, by decide, rfl, rfl⟩⟩

set_option maxHeartbeats 4000000 in
set_option maxRecDepth 100000 in
theorem c_LeafSum (A : Option Addr) (c : Nat) (p : List Int) (w : World) (hp0 : Bs w A p) (h80 : Bytes p) (hlen : p.length ≤ 800000000000) :
  Calls Tryd.prog 34 #[.slice A p.length c] w (OutB w (sha (0 :: p))) := by
 refine enter_abs Tryd.func34 rfl 7 rfl (by simp) ?_
 intro a hs hd hargs
 have s0 := hargs 0 _ rfl
 clear hargs
 have hB := bz_refl w
 refine wp_seq ?_
 refine wp_region_list ?_
 show wpList _ _ _ [_] _ _
 refine tail_op rfl (fun K hK => ?_)
 go_simp
 refine hK _ _ ?_
 clear hK K
 refine act_put (d := 2) _ hs hd (by decide) [(0, _)] ⟨s0, trivial⟩ rfl ?_
 clear hs hd s0
 intro a hs hd zl
 refine wp_seq ?_
 refine wp_region_list ?_
 show wpList _ _ _ [_, _, _, _, _] _ _
 refine tail_op rfl (fun K hK => ?_)
 go_simp
 refine hK _ _ (tP hs hd zl ?_)
 clear hK K hs hd zl
 intro a hs hd zl
 obtain ⟨g, hE⟩ : ∃ g, Is w.heap.size g := is_self _
 have hBg' : w.heap.size ≤ g := Nat.le_of_eq hE.out
 have hBW := Nat.le_trans hB.size hBg'
 have hfg : Far A p (some g) := hp0.far hBg'
 generalize hw1 : World.alloc w _ = w1
 have hown : OwnB g w1 (some ⟨g, 0, none⟩) 1 [0] := by rw [← hw1, ← hE.out]; exact own_one (Blk.new w _ _) (Nat.le_refl _)
 have hB1 : Below w.heap.size w w1 := by rw [← hw1]; exact bz_alloc (bz_refl w) _
 have hB0 : g ≤ w1.heap.size := by rw [← hE.out]; exact hB1.size
 replace hB := bz_then hB hB1
 replace hp0 := hp0.after hB1
 obtain ⟨s3, -, s0, -⟩ := zl
 rw [hE.out] at s3
 clear hw1 hB1 hE hBg'
 refine tail_op rfl (fun K hK => ?_)
 have q0 := gd s0
 go_simp
 clear q0
 refine hK _ _ ?_
 clear hK K
 refine act_put (d := 4) _ hs hd (by decide) [(0, _), (3, _)] ⟨s0, s3, trivial⟩ rfl ?_
 clear hs hd s0 s3
 intro a hs hd zl
 refine tail_op rfl (fun K hK => ?_)
 have q3 := gL zl 2
 have q4 := gL zl 0
 have s3 := vL zl 2
 have s4 := vL zl 0
 refine op_app_u8 (.tmp 3) (.tmp 4) rfl (l := [0]) s3 s4 hown hp0 (by simp only [List.length_cons, List.length_nil]; omega) hB0 ?_
 intro l1 A1 c1 w2 hl1 hn1 hown1 hbel hg1 _
 clear q3 q4
 refine hK _ _ (tP hs hd zl ?_)
 clear hK K hs hd zl s3 s4
 intro a hs hd zl
 replace hB := hB.trans (hbel.mono hBW)
 
 refine tail_op rfl (fun K hK => ?_)
 have q5 := gL zl 0
 go_simp
 refine (c_specSum A1 c1 l1 _ hown1.bs (by rw [hl1.out]; exact (one_byte (by decide) (by decide)).append h80) (by simp only [List.length_cons, List.length_nil] at hn1; omega)).mono ?_
 rintro e w4 ⟨l3, A3, c3, hl3, rfl, hown3, hb3⟩
 clear q5
 refine hK _ _ (tP hs hd zl ?_)
 clear hK K hs hd zl
 intro a hs hd zl
 have hown4 := hown3.less hB.size
 replace hB := bz_then hB hb3
 refine tail_op rfl (fun K hK => ?_)
 have q6 := gL zl 0
 go_simp
 clear q6
 refine hK _ _ (tP hs hd zl ?_)
 clear hK K hs hd zl
 intro a hs hd zl
 refine wp_ret ?_
 exact end_tmp rfl hd (vL zl 0) (OutB.mk' (by rw [hl3.out, hl1.out]; simp) hown4 hB)
set_option maxHeartbeats 4000000 in
set_option maxRecDepth 100000 in
theorem c_InnerSum (A : Option Addr) (c : Nat) (p : List Int) (A' : Option Addr) (c' : Nat) (p' : List Int) (w : World) (hp0 : Bs w A p) (h80 : Bytes p) (hp1 : Bs w A' p') (h81 : Bytes p') (hlen : p.length + p'.length ≤ 800000000000) :
  Calls Tryd.prog 36 #[.slice A p.length c, .slice A' p'.length c'] w (OutB w (sha (1 :: (p ++ p')))) := by
 refine enter_abs Tryd.func36 rfl 11 rfl (by simp) ?_
 intro a hs hd hargs
 have s0 := hargs 0 _ rfl
 have s1 := hargs 1 _ rfl
 clear hargs
 have hB := bz_refl w
 refine wp_seq ?_
 refine wp_region_list ?_
 show wpList _ _ _ [_] _ _
 refine tail_op rfl (fun K hK => ?_)
 go_simp
 refine hK _ _ ?_
 clear hK K
 refine act_put (d := 4) _ hs hd (by decide) [(0, _), (1, _)] ⟨s0, s1, trivial⟩ rfl ?_
 clear hs hd s0 s1
 intro a hs hd zl
 refine wp_seq ?_
 refine wp_region_list ?_
 show wpList _ _ _ [_, _, _, _, _, _, _] _ _
 refine tail_op rfl (fun K hK => ?_)
 go_simp
 refine hK _ _ (tP hs hd zl ?_)
 clear hK K hs hd zl
 intro a hs hd zl
 obtain ⟨g, hE⟩ : ∃ g, Is w.heap.size g := is_self _
 have hBg' : w.heap.size ≤ g := Nat.le_of_eq hE.out
 have hBW := Nat.le_trans hB.size hBg'
 have hfg : Far A p (some g) ∧ Far A' p' (some g) := ⟨hp0.far hBg', hp1.far hBg'⟩
 generalize hw1 : World.alloc w _ = w1
 have hown : OwnB g w1 (some ⟨g, 0, none⟩) 1 [1] := by rw [← hw1, ← hE.out]; exact own_one (Blk.new w _ _) (Nat.le_refl _)
 have hB1 : Below w.heap.size w w1 := by rw [← hw1]; exact bz_alloc (bz_refl w) _
 have hB0 : g ≤ w1.heap.size := by rw [← hE.out]; exact hB1.size
 replace hB := bz_then hB hB1
 replace hp0 := hp0.after hB1
 replace hp1 := hp1.after hB1
 obtain ⟨s5, -, s0, s1, -⟩ := zl
 rw [hE.out] at s5
 clear hw1 hB1 hE hBg'
 refine tail_op rfl (fun K hK => ?_)
 have q0 := gd s0
 go_simp
 clear q0
 refine hK _ _ ?_
 clear hK K
 refine act_put (d := 6) _ hs hd (by decide) [(0, _), (1, _), (5, _)] ⟨s0, s1, s5, trivial⟩ rfl ?_
 clear hs hd s0 s1 s5
 intro a hs hd zl
 refine tail_op rfl (fun K hK => ?_)
 have q5 := gL zl 3
 have q6 := gL zl 0
 have s5 := vL zl 3
 have s6 := vL zl 0
 refine op_app_u8 (.tmp 5) (.tmp 6) rfl (l := [1]) s5 s6 hown hp0 (by simp only [List.length_cons, List.length_nil]; omega) hB0 ?_
 intro l1 A1 c1 w2 hl1 hn1 hown1 hbel hg1 _
 clear q5 q6
 refine hK _ _ (tP hs hd zl ?_)
 clear hK K hs hd zl s5 s6
 intro a hs hd zl
 replace hB := hB.trans (hbel.mono hBW)
 have hB0' : g ≤ _ := Nat.le_trans hB0 hg1.size
 replace hp1 := hp1.grown hg1 hfg.2
 
 refine tail_op rfl (fun K hK => ?_)
 have q1 := gL zl 3
 go_simp
 clear q1
 refine hK _ _ (tP hs hd zl ?_)
 clear hK K hs hd zl
 intro a hs hd zl
 refine tail_op rfl (fun K hK => ?_)
 have q7 := gL zl 1
 have q8 := gL zl 0
 have s7 := vL zl 1
 have s8 := vL zl 0
 refine op_app_u8 (.tmp 7) (.tmp 8) rfl s7 s8 hown1 hp1 (by simp only [List.length_cons, List.length_nil] at hn1; omega) hB0' ?_
 intro l2 A2 c2 w3 hl2 hn2 hown2 hbel2 _ _
 clear q7 q8
 refine hK _ _ (tP hs hd zl ?_)
 clear hK K hs hd zl s7 s8
 intro a hs hd zl
 replace hB := hB.trans (hbel2.mono hBW)
 refine tail_op rfl (fun K hK => ?_)
 have q9 := gL zl 0
 go_simp
 refine (c_specSum A2 c2 l2 _ hown2.bs (by rw [hl2.out, hl1.out]; exact ((one_byte (by decide) (by decide)).append h80).append h81) (by simp only [List.length_cons, List.length_nil] at hn1; omega)).mono ?_
 rintro e w4 ⟨l3, A3, c3, hl3, rfl, hown3, hb3⟩
 clear q9
 refine hK _ _ (tP hs hd zl ?_)
 clear hK K hs hd zl
 intro a hs hd zl
 have hown4 := hown3.less hB.size
 replace hB := bz_then hB hb3
 refine tail_op rfl (fun K hK => ?_)
 have q10 := gL zl 0
 go_simp
 clear q10
 refine hK _ _ (tP hs hd zl ?_)
 clear hK K hs hd zl
 intro a hs hd zl
 refine wp_ret ?_
 exact end_tmp rfl hd (vL zl 0) (OutB.mk' (by rw [hl3.out, hl2.out, hl1.out]; simp) hown4 hB)
end Go.Proofs.YtcmllcmcbamlbaaDoor
namespace Go.Proofs.YtcmllcmcbamlbaaDoor
open Go.RowKit
theorem Ls0.at_ {w : World} {A : Option Addr} {ls : List (List Int)} (h : Ls0 w A ls) (hn : 0 < ls.length) : ∃ b o, A = some ⟨b, o, none⟩ := by
 obtain ⟨b, o, _, _, h1, _⟩ := h 0 hn
 exact ⟨b, o, h1⟩
theorem Ls0.take {w : World} {A : Option Addr} {ls : List (List Int)} (h : Ls0 w A ls) (k : Nat) : Ls0 w A (ls.take k) := fun i hi => by
 rw [List.length_take] at hi
 have e : (ls.take k).getD i [] = ls.getD i [] := by rw [List.getD_eq_getElem?_getD, List.getElem?_take, if_pos (by omega), ← List.getD_eq_getElem?_getD]
 rw [e]
 exact h i (by omega)
theorem Ls0.drop {w : World} {b o : Nat} {ls : List (List Int)} (h : Ls0 w (some ⟨b, o, none⟩) ls) (k : Nat) : Ls0 w (some ⟨b, o + k, none⟩) (ls.drop k) := fun i hi => by
 rw [List.length_drop] at hi
 have e : (ls.drop k).getD i [] = ls.getD (k + i) [] := by rw [List.getD_eq_getElem?_getD, List.getElem?_drop, ← List.getD_eq_getElem?_getD]
 rw [e]
 obtain ⟨b', o', Ai, ci, h1, h2, h3, h4⟩ := h (k + i) (by omega)
 injection h1 with h1
 injection h1 with e1 e2
 subst e1 e2
 exact ⟨_, _, Ai, ci, rfl, h2, by rw [Nat.add_assoc]; exact h3, h4⟩

set_option maxHeartbeats 4000000 in
set_option maxRecDepth 100000 in
theorem c_specRoot : ∀ (f : Nat) (ls : List (List Int)) (N : Nat) (A : Option Addr) (c : Nat) (w : World), Is ls.length N → N ≤ f → N ≤ 20 → N ≤ c → Ls0 w A ls → Small ls → 0 < f →
  Calls Tryd.prog 23 #[.slice A N c] w fun e w' => ∃ v, e = .returned v ∧ BsAt w.heap.size (rootN f ls) v w' ∧ Below w.heap.size w w' := by
 intro f
 induction f with
 | zero => exact fun _ _ _ _ _ _ _ _ _ _ _ h => absurd h (by omega)
 | succ f ih =>
  intro ls N A c w hN hNf hN20 hNc hL hS _
  rw [rootN, hN.out]
  refine enter_abs Tryd.func23 rfl 27 rfl (by simp) ?_
  intro a hs hd hargs
  have s0 := hargs 0 _ rfl
  clear hargs
  have hB := bz_refl w
  rcases (by omega : N = 0 ∨ N = 1 ∨ 2 ≤ N) with h0 | h1 | h2
  ·subst h0
   rw [if_pos rfl]
   refine wp_seq ?_
   refine wp_region_list ?_
   show wpList _ _ _ [_] _ _
   refine tail_op rfl (fun K hK => ?_)
   go_simp
   refine hK _ _ ?_
   clear hK K
   refine act_put (d := 2) _ hs hd (by decide) [(0, _)] ⟨s0, trivial⟩ rfl ?_
   clear hs hd s0
   intro a hs hd e
   obtain ⟨s2, s0, -⟩ := e
   clear s2
   refine wp_seq ?_
   refine wp_seq ?_
   refine wp_flow2_use [(0, _)]
    [FItem.eq 4 (_)]
    1 27 (by kernel_rfl) (by kernel_rfl) (by kernel_rfl) (by kernel_rfl) hs hd ⟨s0, trivial⟩
    ⟨(fun a u hb hs hl hd K hK => by
      obtain ⟨l0, -⟩ := hl
      have s0 := gd l0
      clear hd
      refine step_plain rfl ?_
      go_simp; exact hK _ _ (Below.refl _ _) (eq_put hs (by decide))),
     trivial⟩ ?_
   clear hs hd s0
   intro a w hb hs hd hl hh
   obtain ⟨s0, -⟩ := hl
   have s4 := hold_eq hh 0 rfl
   clear hh
   replace hL := hL.after hb
   replace hB := bz_then hB hb
   clear hb
   show wpList _ _ _ [_] _ _
   refine tail_op rfl (fun K hK => ?_)
   have q4 := gd s4
   go_simp
   clear q4
   refine hK _ _ ?_
   clear hK K
   refine act_put (d := 5) _ hs hd (by decide) [(0, _), (4, _)] ⟨s0, s4, trivial⟩ rfl ?_
   clear hs hd s0 s4
   intro a hs hd e
   obtain ⟨s5, s0, s4, -⟩ := e
   clear s4
   refine wp_block ?_
   refine wp_seq ?_
   refine wp_flow2_use [(0, _), (5, _)]
    [FItem.eq 7 (_)]
    1 27 (by kernel_rfl) (by kernel_rfl) (by kernel_rfl) (by kernel_rfl) hs hd ⟨s0, s5, trivial⟩
    ⟨(fun a u hb hs hl hd K hK => by
      obtain ⟨-, l5, -⟩ := hl
      have s5 := gd l5
      clear hd
      refine step_plain rfl ?_
      go_simp; exact hK _ _ (Below.refl _ _) (eq_put hs (by decide))),
     trivial⟩ ?_
   clear hs hd s0 s5
   intro a w hb hs hd hl hh
   obtain ⟨s0, s5, -⟩ := hl
   have s7 := hold_eq hh 0 rfl
   clear hh
   replace hL := hL.after hb
   replace hB := bz_then hB hb
   clear hb
   show wpList _ _ _ [_] _ _
   refine tail_op rfl (fun K hK => ?_)
   have q7 := gd s7
   go_simp
   clear q7
   refine hK _ _ ?_
   clear hK K
   refine act_put (d := 6) _ hs hd (by decide) [(0, _), (5, _), (7, _)] ⟨s0, s5, s7, trivial⟩ rfl ?_
   clear hs hd s0 s5 s7
   intro a hs hd e
   obtain ⟨s6, s0, s5, s7, -⟩ := e
   clear s7
   refine wp_cond_true s6 ?_
   refine wp_seq ?_
   refine wp_region_list ?_
   show wpList _ _ _ [_, _] _ _
   refine tail_op rfl (fun K hK => ?_)
   go_simp
   refine (c_specSum none 0 [] _ (Bs.nil _ _) Bytes.nil (by decide)).mono ?_
   intro e w3 h
   obtain ⟨v, rfl, hv, hb2⟩ := h.read.at_ hB.size
   refine hK _ _ ?_
   clear hK K
   refine act_put (d := 8) _ hs hd (by decide) [(0, _), (5, _), (6, _)] ⟨s0, s5, s6, trivial⟩ rfl ?_
   clear hs hd s0 s5 s6
   intro a hs hd e
   obtain ⟨s8, s0, s5, s6, -⟩ := e
   replace hB := bz_then hB hb2
   clear hb2 hL
   refine tail_op rfl (fun K hK => ?_)
   have q8 := gd s8
   go_simp
   clear q8
   refine hK _ _ ?_
   clear hK K
   refine act_put (d := 2) _ hs hd (by decide) [(0, _), (5, _), (6, _), (8, _)] ⟨s0, s5, s6, s8, trivial⟩ rfl ?_
   clear hs hd s0 s5 s6 s8
   intro a hs hd e
   obtain ⟨s2, s0, s5, s6, s8, -⟩ := e
   clear s0 s5 s6 s8
   refine wp_ret ?_
   repeat first | refine then_ret ?_ | refine inBlock_ret ?_
   exact end_tmp rfl hd s2 ⟨v, rfl, hv, hB⟩
  ·subst h1
   rw [if_neg (by decide), if_pos rfl]
   refine wp_seq ?_
   refine wp_region_list ?_
   show wpList _ _ _ [_] _ _
   refine tail_op rfl (fun K hK => ?_)
   go_simp
   refine hK _ _ ?_
   clear hK K
   refine act_put (d := 2) _ hs hd (by decide) [(0, _)] ⟨s0, trivial⟩ rfl ?_
   clear hs hd s0
   intro a hs hd e
   obtain ⟨s2, s0, -⟩ := e
   clear s2
   refine wp_seq ?_
   refine wp_seq ?_
   refine wp_flow2_use [(0, _)]
    [FItem.eq 4 (_)]
    1 27 (by kernel_rfl) (by kernel_rfl) (by kernel_rfl) (by kernel_rfl) hs hd ⟨s0, trivial⟩
    ⟨(fun a u hb hs hl hd K hK => by
      obtain ⟨l0, -⟩ := hl
      have s0 := gd l0
      clear hd
      refine step_plain rfl ?_
      go_simp; exact hK _ _ (Below.refl _ _) (eq_put hs (by decide))),
     trivial⟩ ?_
   clear hs hd s0
   intro a w hb hs hd hl hh
   obtain ⟨s0, -⟩ := hl
   have s4 := hold_eq hh 0 rfl
   clear hh
   replace hL := hL.after hb
   replace hB := bz_then hB hb
   clear hb
   show wpList _ _ _ [_] _ _
   refine tail_op rfl (fun K hK => ?_)
   have q4 := gd s4
   go_simp
   clear q4
   refine hK _ _ ?_
   clear hK K
   refine act_put (d := 5) _ hs hd (by decide) [(0, _), (4, _)] ⟨s0, s4, trivial⟩ rfl ?_
   clear hs hd s0 s4
   intro a hs hd e
   obtain ⟨s5, s0, s4, -⟩ := e
   clear s4
   refine wp_block ?_
   refine wp_seq ?_
   refine wp_flow2_use [(0, _), (5, _)]
    [FItem.eq 7 (_)]
    1 27 (by kernel_rfl) (by kernel_rfl) (by kernel_rfl) (by kernel_rfl) hs hd ⟨s0, s5, trivial⟩
    ⟨(fun a u hb hs hl hd K hK => by
      obtain ⟨-, l5, -⟩ := hl
      have s5 := gd l5
      clear hd
      refine step_plain rfl ?_
      go_simp; exact hK _ _ (Below.refl _ _) (eq_put hs (by decide))),
     trivial⟩ ?_
   clear hs hd s0 s5
   intro a w hb hs hd hl hh
   obtain ⟨s0, s5, -⟩ := hl
   have s7 := hold_eq hh 0 rfl
   clear hh
   replace hL := hL.after hb
   replace hB := bz_then hB hb
   clear hb
   show wpList _ _ _ [_] _ _
   refine tail_op rfl (fun K hK => ?_)
   have q7 := gd s7
   go_simp
   clear q7
   refine hK _ _ ?_
   clear hK K
   refine act_put (d := 6) _ hs hd (by decide) [(0, _), (5, _), (7, _)] ⟨s0, s5, s7, trivial⟩ rfl ?_
   clear hs hd s0 s5 s7
   intro a hs hd e
   obtain ⟨s6, s0, s5, s7, -⟩ := e
   clear s7
   refine wp_cond_false s6 ?_
   refine wp_seq ?_
   refine wp_flow2_use [(0, _), (5, _), (6, _)]
    [FItem.eq 10 (_)]
    1 27 (by kernel_rfl) (by kernel_rfl) (by kernel_rfl) (by kernel_rfl) hs hd ⟨s0, s5, s6, trivial⟩
    ⟨(fun a u hb hs hl hd K hK => by
      obtain ⟨-, l5, -, -⟩ := hl
      have s5 := gd l5
      clear hd
      refine step_plain rfl ?_
      go_simp; exact hK _ _ (Below.refl _ _) (eq_put hs (by decide))),
     trivial⟩ ?_
   clear hs hd s0 s5 s6
   intro a w hb hs hd hl hh
   obtain ⟨s0, -, -, -⟩ := hl
   have s10 := hold_eq hh 0 rfl
   clear hh
   replace hL := hL.after hb
   replace hB := bz_then hB hb
   clear hb
   show wpList _ _ _ [_] _ _
   refine tail_op rfl (fun K hK => ?_)
   have q10 := gd s10
   go_simp
   clear q10
   refine hK _ _ ?_
   clear hK K
   refine act_put (d := 9) _ hs hd (by decide) [(0, _), (10, _)] ⟨s0, s10, trivial⟩ rfl ?_
   clear hs hd s0 s10
   intro a hs hd e
   obtain ⟨s9, s0, s10, -⟩ := e
   clear s10
   refine wp_cond_true s9 ?_
   refine wp_seq ?_
   obtain ⟨b, o, Ai, ci, rfl, hbw, c0, hbi, hci, hfi⟩ := hL 0 (by rw [hN.out]; decide)
   rw [Nat.add_zero] at c0
   obtain ⟨x0, hx0⟩ : ∃ x0, Is (ls.getD 0 []) x0 := is_self _
   have hsm := hS.get (i := 0) (by rw [hN.out]; decide)
   rw [hx0.out] at c0 hbi hci hfi hsm ⊢
   refine wp_flow2_use [(0, _), (9, _)]
    [FItem.eq 11 (_), FItem.eq 12 (_), FItem.eq 13 (_)]
    3 27 (by kernel_rfl) (by kernel_rfl) (by kernel_rfl) (by kernel_rfl) hs hd ⟨s0, s9, trivial⟩
    ⟨(fun a u hb hs hl hd K hK => by
      obtain ⟨l0, -, -⟩ := hl
      have s0 := gd l0
      clear hd
      refine step_plain rfl ?_
      go_simp; exact hK _ _ (Below.refl _ _) (eq_put hs (by decide))),
     (fun a u hb hs hl hd K hK => by
      have s11 := gd (dep_get hd 0 (by kernel_rfl) rfl)
      clear hd
      refine step_plain rfl ?_
      go_simp; exact hK _ _ (Below.refl _ _) (eq_put hs (by decide))),
     (fun a u hb hs hl hd K hK => by
      have s12 := gd (dep_get hd 1 (by kernel_rfl) rfl)
      have c0 := cell_up hb c0
      clear hd
      refine step_plain rfl ?_
      go_simp; exact hK _ _ (Below.refl _ _) (eq_put hs (by decide))),
     trivial⟩ ?_
   clear hs hd s0 s9
   intro a w hb hs hd hl hh
   obtain ⟨-, -, -⟩ := hl
   have s13 := hold_eq hh 2 rfl
   clear hh
   replace hL := hL.after hb
   replace hbi := hbi.after hb
   replace c0 := cell_up hb c0
   replace hB := bz_then hB hb
   clear hb
   show wpList _ _ _ [_, _] _ _
   refine tail_op rfl (fun K hK => ?_)
   have q13 := gd s13
   go_simp
   refine (c_LeafSum Ai ci x0 _ hbi hsm.1 (by have := hsm.2; omega)).mono ?_
   intro e w3 h
   obtain ⟨v, rfl, hv, hb2⟩ := h.read.at_ hB.size
   clear q13
   refine hK _ _ ?_
   clear hK K
   refine act_put (d := 14) _ hs hd (by decide) [(13, _)] ⟨s13, trivial⟩ rfl ?_
   clear hs hd s13
   intro a hs hd e
   obtain ⟨s14, s13, -⟩ := e
   replace hB := bz_then hB hb2
   refine tail_op rfl (fun K hK => ?_)
   have q14 := gd s14
   go_simp
   clear q14
   refine hK _ _ ?_
   clear hK K
   refine act_put (d := 2) _ hs hd (by decide) [(13, _), (14, _)] ⟨s13, s14, trivial⟩ rfl ?_
   clear hs hd s13 s14
   intro a hs hd e
   obtain ⟨s2, s13, s14, -⟩ := e
   clear s13 s14
   refine wp_ret ?_
   repeat first | refine then_ret ?_ | refine inBlock_ret ?_
   exact end_tmp rfl hd s2 ⟨v, rfl, hv, hB⟩
  ·rw [if_neg (by omega), if_neg (by omega)]
   have e0 : (N == 0) = false := by rw [beq_eq_false_iff_ne]; omega
   have e1 : (N == 1) = false := by rw [beq_eq_false_iff_ne]; omega
   have e0' : ((N : Int) == 0) = false := by rw [beq_eq_false_iff_ne]; omega
   have e1' : ((N : Int) == 1) = false := by rw [beq_eq_false_iff_ne]; omega
   obtain ⟨b, o, rfl⟩ := hL.at_ (by rw [hN.out]; omega)
   obtain ⟨k, hk⟩ : ∃ k, Is (splitN N) k := is_self _
   have hk2 := splitN_lt h2 (by omega)
   rw [hk.out] at hk2 ⊢
   obtain ⟨hk0, hk1⟩ := hk2
   have hkc : ¬ (c = k) := by omega
   have hk3 : (k : Int) ≤ (N : Int) := by omega
   have hk4 : (k : Int) ≤ (c : Int) := by omega
   have hk5 : (0 : Int) ≤ (k : Int) := by omega
   have hk6 : k ≤ N := by omega
   have hk7 : k ≤ c := by omega
   refine wp_seq ?_
   refine wp_region_list ?_
   show wpList _ _ _ [_] _ _
   refine tail_op rfl (fun K hK => ?_)
   go_simp
   refine hK _ _ ?_
   clear hK K
   refine act_put (d := 2) _ hs hd (by decide) [(0, _)] ⟨s0, trivial⟩ rfl ?_
   clear hs hd s0
   intro a hs hd e
   obtain ⟨s2, s0, -⟩ := e
   clear s2
   refine wp_seq ?_
   refine wp_seq ?_
   refine wp_flow2_use [(0, _)]
    [FItem.eq 4 (_)]
    1 27 (by kernel_rfl) (by kernel_rfl) (by kernel_rfl) (by kernel_rfl) hs hd ⟨s0, trivial⟩
    ⟨(fun a u hb hs hl hd K hK => by
      obtain ⟨l0, -⟩ := hl
      have s0 := gd l0
      clear hd
      refine step_plain rfl ?_
      go_simp; exact hK _ _ (Below.refl _ _) (eq_put hs (by decide))),
     trivial⟩ ?_
   clear hs hd s0
   intro a w hb hs hd hl hh
   obtain ⟨s0, -⟩ := hl
   have s4 := hold_eq hh 0 rfl
   clear hh
   replace hL := hL.after hb
   replace hB := bz_then hB hb
   clear hb
   show wpList _ _ _ [_] _ _
   refine tail_op rfl (fun K hK => ?_)
   have q4 := gd s4
   go_simp
   clear q4
   refine hK _ _ ?_
   clear hK K
   refine act_put (d := 5) _ hs hd (by decide) [(0, _), (4, _)] ⟨s0, s4, trivial⟩ rfl ?_
   clear hs hd s0 s4
   intro a hs hd e
   obtain ⟨s5, s0, s4, -⟩ := e
   clear s4
   refine wp_block ?_
   refine wp_seq ?_
   refine wp_flow2_use [(0, _), (5, _)]
    [FItem.eq 7 (_)]
    1 27 (by kernel_rfl) (by kernel_rfl) (by kernel_rfl) (by kernel_rfl) hs hd ⟨s0, s5, trivial⟩
    ⟨(fun a u hb hs hl hd K hK => by
      obtain ⟨-, l5, -⟩ := hl
      have s5 := gd l5
      clear hd
      refine step_plain rfl ?_
      go_simp; exact hK _ _ (Below.refl _ _) (eq_put hs (by decide))),
     trivial⟩ ?_
   clear hs hd s0 s5
   intro a w hb hs hd hl hh
   obtain ⟨s0, s5, -⟩ := hl
   have s7 := hold_eq hh 0 rfl
   clear hh
   replace hL := hL.after hb
   replace hB := bz_then hB hb
   clear hb
   show wpList _ _ _ [_] _ _
   refine tail_op rfl (fun K hK => ?_)
   have q7 := gd s7
   go_simp
   clear q7
   refine hK _ _ ?_
   clear hK K
   refine act_put (d := 6) _ hs hd (by decide) [(0, _), (5, _), (7, _)] ⟨s0, s5, s7, trivial⟩ rfl ?_
   clear hs hd s0 s5 s7
   intro a hs hd e
   obtain ⟨s6, s0, s5, s7, -⟩ := e
   clear s7
   refine wp_cond_false s6 ?_
   refine wp_seq ?_
   refine wp_flow2_use [(0, _), (5, _), (6, _)]
    [FItem.eq 10 (_)]
    1 27 (by kernel_rfl) (by kernel_rfl) (by kernel_rfl) (by kernel_rfl) hs hd ⟨s0, s5, s6, trivial⟩
    ⟨(fun a u hb hs hl hd K hK => by
      obtain ⟨-, l5, -, -⟩ := hl
      have s5 := gd l5
      clear hd
      refine step_plain rfl ?_
      go_simp; exact hK _ _ (Below.refl _ _) (eq_put hs (by decide))),
     trivial⟩ ?_
   clear hs hd s0 s5 s6
   intro a w hb hs hd hl hh
   obtain ⟨s0, -, -, -⟩ := hl
   have s10 := hold_eq hh 0 rfl
   clear hh
   replace hL := hL.after hb
   replace hB := bz_then hB hb
   clear hb
   show wpList _ _ _ [_] _ _
   refine tail_op rfl (fun K hK => ?_)
   have q10 := gd s10
   go_simp
   clear q10
   refine hK _ _ ?_
   clear hK K
   refine act_put (d := 9) _ hs hd (by decide) [(0, _), (10, _)] ⟨s0, s10, trivial⟩ rfl ?_
   clear hs hd s0 s10
   intro a hs hd e
   obtain ⟨s9, s0, s10, -⟩ := e
   clear s10
   refine wp_cond_false s9 ?_
   refine wp_skip ?_
   refine wp_seq ?_
   refine wp_flow2_use [(0, _), (9, _)]
    [FItem.eq 15 (_), FItem.eq 16 (_)]
    2 27 (by kernel_rfl) (by kernel_rfl) (by kernel_rfl) (by kernel_rfl) hs hd ⟨s0, s9, trivial⟩
    ⟨(fun a u hb hs hl hd K hK => by
      obtain ⟨l0, -, -⟩ := hl
      have s0 := gd l0
      clear hd
      refine step_plain rfl ?_
      go_simp; exact hK _ _ (Below.refl _ _) (eq_put hs (by decide))),
     (fun a u hb hs hl hd K hK => by
      have s15 := gd (dep_get hd 0 (by kernel_rfl) rfl)
      clear hd
      refine step_plain rfl ?_
      go_simp; exact hK _ _ (Below.refl _ _) (eq_put hs (by decide))),
     trivial⟩ ?_
   clear hs hd s0 s9
   intro a w hb hs hd hl hh
   obtain ⟨s0, -, -⟩ := hl
   have s16 := hold_eq hh 1 rfl
   clear hh
   replace hL := hL.after hb
   replace hB := bz_then hB hb
   clear hb
   show wpList _ _ _ [_, _] _ _
   refine tail_op rfl (fun K hK => ?_)
   have q16 := gd s16
   go_simp
   refine (c_spl N _ h2 hN20).mono ?_
   rintro e w3 ⟨rfl, hw3⟩
   subst hw3
   rw [hk.out]
   clear q16
   refine hK _ _ ?_
   clear hK K
   refine act_put (d := 17) _ hs hd (by decide) [(0, _), (16, _)] ⟨s0, s16, trivial⟩ rfl ?_
   clear hs hd s0 s16
   intro a hs hd e
   obtain ⟨s17, s0, s16, -⟩ := e
   refine tail_op rfl (fun K hK => ?_)
   have q17 := gd s17
   go_simp
   clear q17
   refine hK _ _ ?_
   clear hK K
   refine act_put (d := 3) _ hs hd (by decide) [(0, _), (16, _), (17, _)] ⟨s0, s16, s17, trivial⟩ rfl ?_
   clear hs hd s0 s16 s17
   intro a hs hd e
   obtain ⟨s3, s0, s16, s17, -⟩ := e
   clear s16 s17
   refine wp_seq ?_
   have hSz := hB.size
   refine wp_flow2_use [(0, _), (3, _)]
    [FItem.eq 18 (_), FItem.eq 19 (_), FItem.eq 20 (_), FItem.bs 21 0 (rootN f (ls.take k)), FItem.eq 22 (_), FItem.eq 23 (_), FItem.eq 24 (_), FItem.bs 25 0 (rootN f (ls.drop k))]
    8 27 (by kernel_rfl) (by kernel_rfl) (by kernel_rfl) (by kernel_rfl) hs hd ⟨s0, s3, trivial⟩
    ⟨(fun a u hb hs hl hd K hK => by
      obtain ⟨l0, -, -⟩ := hl
      have s0 := gd l0
      clear hd
      refine step_plain rfl ?_
      go_simp; exact hK _ _ (Below.refl _ _) (eq_put hs (by decide))),
     (fun a u hb hs hl hd K hK => by
      obtain ⟨-, l3, -⟩ := hl
      have s3 := gd l3
      clear hd
      refine step_plain rfl ?_
      go_simp; exact hK _ _ (Below.refl _ _) (eq_put hs (by decide))),
     (fun a u hb hs hl hd K hK => by
      have s18 := gd (dep_get hd 0 (by kernel_rfl) rfl)
      have s19 := gd (dep_get hd 1 (by kernel_rfl) rfl)
      clear hd
      refine step_plain rfl ?_
      go_simp; exact hK _ _ (Below.refl _ _) (eq_put hs (by decide))),
     (fun a u hb hs hl hd K hK => by
      have s20 := gd (dep_get hd 2 (by kernel_rfl) rfl)
      clear hd
      refine step_plain rfl ?_
      go_simp
      refine (ih (ls.take k) (k) (some ⟨b, o, none⟩) _ u ?_ (by omega) (by omega) (by omega) ((hL.after hb).take k) (hS.take k) (by omega)).mono ?_
      ·rw [Is, List.length_take, hN.out]; omega
      rintro e w3 ⟨v, rfl, hv, hb2⟩
      exact hK _ _ hb2 (bs_put hs (by decide) (hv.less (Nat.zero_le _)))),
     (fun a u hb hs hl hd K hK => by
      obtain ⟨l0, -, -⟩ := hl
      have s0 := gd l0
      clear hd
      refine step_plain rfl ?_
      go_simp; exact hK _ _ (Below.refl _ _) (eq_put hs (by decide))),
     (fun a u hb hs hl hd K hK => by
      obtain ⟨-, l3, -⟩ := hl
      have s3 := gd l3
      clear hd
      refine step_plain rfl ?_
      go_simp; exact hK _ _ (Below.refl _ _) (eq_put hs (by decide))),
     (fun a u hb hs hl hd K hK => by
      have s22 := gd (dep_get hd 4 (by kernel_rfl) rfl)
      have s23 := gd (dep_get hd 5 (by kernel_rfl) rfl)
      clear hd
      refine step_plain rfl ?_
      go_simp; exact hK _ _ (Below.refl _ _) (eq_put hs (by decide))),
     (fun a u hb hs hl hd K hK => by
      have s24 := gd (dep_get hd 6 (by kernel_rfl) rfl)
      clear hd
      refine step_plain rfl ?_
      go_simp
      refine (ih (ls.drop k) (N - k) (some ⟨b, o + k, none⟩) _ u ?_ (by omega) (by omega) (by omega) ((hL.after hb).drop k) (hS.drop k) (by omega)).mono ?_
      ·rw [Is, List.length_drop, hN.out]
      rintro e w3 ⟨v, rfl, hv, hb2⟩
      exact hK _ _ hb2 (bs_put hs (by decide) (hv.less (Nat.zero_le _)))),
     trivial⟩ ?_
   clear hs hd s0 s3
   intro a w hb hs hd hl hh
   obtain ⟨-, -, -⟩ := hl
   obtain ⟨l6, A6, c6, hl6, s21, f6, k6, b6, n6⟩ := FItem.bs_holds.1 (hold_get hh 3)
   obtain ⟨l7, A7, c7, hl7, s25, f7, k7, b7, n7⟩ := FItem.bs_holds.1 (hold_get hh 7)
   clear hh
   replace hL := hL.after hb
   replace hB := bz_then hB hb
   clear hb
   show wpList _ _ _ [_, _] _ _
   refine tail_op rfl (fun K hK => ?_)
   have q21 := gd s21
   have q25 := gd s25
   go_simp
   refine (c_InnerSum A6 c6 l6 A7 c7 l7 _ b6 (by rw [hl6.out]; exact rootN_bytes _ _) b7 (by rw [hl7.out]; exact rootN_bytes _ _) (by rw [hl6.out, hl7.out, rootN_len, rootN_len]; decide)).mono ?_
   intro e w3 h
   obtain ⟨v, rfl, hv, hb2⟩ := h.read.at_ hB.size
   rw [hl6.out, hl7.out] at hv
   clear q21 q25
   refine hK _ _ ?_
   clear hK K
   refine act_put (d := 26) _ hs hd (by decide) [(21, _), (25, _)] ⟨s21, s25, trivial⟩ rfl ?_
   clear hs hd s21 s25
   intro a hs hd e
   obtain ⟨s26, s21, s25, -⟩ := e
   replace hB := bz_then hB hb2
   refine tail_op rfl (fun K hK => ?_)
   have q26 := gd s26
   go_simp
   clear q26
   refine hK _ _ ?_
   clear hK K
   refine act_put (d := 2) _ hs hd (by decide) [(21, _), (25, _), (26, _)] ⟨s21, s25, s26, trivial⟩ rfl ?_
   clear hs hd s21 s25 s26
   intro a hs hd e
   obtain ⟨s2, s21, s25, s26, -⟩ := e
   clear s21 s25 s26
   refine wp_ret ?_
   exact end_tmp rfl hd s2 ⟨v, rfl, hv, hB⟩
end Go.Proofs.YtcmllcmcbamlbaaDoor
namespace Go.Proofs.YtcmllcmcbamlbaaDoor
open Go.RowKit
theorem bsl_info : (Tryd.prog.info? 23).map (fun i => (i.zero, i.size, i.bytes)) = some (some (.slice none 0 0), 1, 24) := by kernel_rfl
/-- A slice of slices in a block of its own. -/
def OwnS (base : Nat) (w : World) (A : Option Addr) (c : Nat) (vs : List Value) : Prop := w.ownsRow base 23 1 (.slice A vs.length c) vs.length vs
theorem OwnS.nil (base : Nat) (w : World) : OwnS base w none 0 [] := World.ownsRow_nil w base _ 1
theorem OwnS.form {base : Nat} {w : World} {A : Option Addr} {c : Nat} {vs : List Value} (h : OwnS base w A c vs) : (A = none ∧ c = 0 ∧ vs = []) ∨ ∃ g cur, A = some ⟨g, 0, none⟩ ∧ base ≤ g ∧ g < w.heap.size ∧ Blk w g 23 cur ∧ vs.length ≤ c ∧ cur.toList.take vs.length = vs := by
 rcases h.2 with ⟨h1, h2⟩ | ⟨g, cap, cur, h1, h2, h3, h4, h5, h6, h7⟩
 ·left
  injection h1 with a b c
  exact ⟨a, c, List.eq_nil_of_length_eq_zero h2⟩
 ·right
  injection h1 with a b c
  subst c
  exact ⟨g, cur, a, h2, (Array.getElem?_eq_some_iff.1 h3).1, h3, h4, by simpa using h7⟩
theorem OwnS.after {base : Nat} {w w' : World} {A : Option Addr} {c : Nat} {vs : List Value} (h : OwnS base w A c vs) (hb : Below w.heap.size w w') : OwnS base w' A c vs := by
 rcases h.2 with h1 | ⟨g, cap, cur, h1, h2, h3, h4⟩
 ·exact ⟨h.1, .inl h1⟩
 ·exact ⟨h.1, .inr ⟨g, cap, cur, h1, h2, (hb.block g (Array.getElem?_eq_some_iff.1 h3).1).trans h3, h4⟩⟩
theorem OwnS.new {base : Nat} {w : World} {g : Nat} {vs : List Value} (h : Blk w g 23 vs.toArray) (hb : base ≤ g) (hc : vs.length ≤ 1000) : OwnS base w (some ⟨g, 0, none⟩) vs.length vs :=
 ⟨by rw [Nat.mul_one], .inr ⟨g, vs.length, _, rfl, hb, h, Nat.le_refl _, by unfold maxLen; omega, by simp, by simp⟩⟩
/-- The values of the slots are slices that read the lists. -/
def LsV (w : World) : List Value → List (List Int) → Prop
 | [], [] => True
 | v :: vs, l :: ls => BsAt 0 l v w ∧ LsV w vs ls
 | _, _ => False
theorem LsV.after {w w' : World} (hb : Below w.heap.size w w') : ∀ {vs : List Value} {ls : List (List Int)}, LsV w vs ls → LsV w' vs ls
 | [], [], _ => trivial
 | _ :: _, _ :: _, h => ⟨h.1.after hb, LsV.after hb h.2⟩
 | [], _ :: _, h => h.elim
 | _ :: _, [], h => h.elim
theorem LsV.append {w : World} : ∀ {vs us : List Value} {ls ks : List (List Int)}, LsV w vs ls → LsV w us ks → LsV w (vs ++ us) (ls ++ ks)
 | [], _, [], _, _, k => k
 | _ :: _, _, _ :: _, _, h, k => ⟨h.1, LsV.append h.2 k⟩
 | [], _, _ :: _, _, h, _ => h.elim
 | _ :: _, _, [], _, h, _ => h.elim
theorem LsV.length {w : World} : ∀ {vs : List Value} {ls : List (List Int)}, LsV w vs ls → vs.length = ls.length
 | [], [], _ => rfl
 | _ :: _, _ :: _, h => by simp [LsV.length h.2]
 | [], _ :: _, h => h.elim
 | _ :: _, [], h => h.elim
theorem LsV.get {w : World} : ∀ {vs : List Value} {ls : List (List Int)}, LsV w vs ls → ∀ i, i < ls.length → ∃ v, vs[i]? = some v ∧ BsAt 0 (ls.getD i []) v w
 | _ :: _, _ :: _, h, 0, _ => ⟨_, rfl, h.1⟩
 | _ :: vs, _ :: ls, h, i + 1, hi => by
  obtain ⟨v, h1, h2⟩ := LsV.get h.2 i (by simpa using hi)
  exact ⟨v, by simpa using h1, by simpa using h2⟩
 | [], _ :: _, h, _, _ => h.elim
 | _, [], _, i, hi => absurd hi (Nat.not_lt_zero i)
theorem OwnS.ls0 {base : Nat} {w : World} {A : Option Addr} {c : Nat} {vs : List Value} {ls : List (List Int)} (h : OwnS base w A c vs) (hv : LsV w vs ls) : Ls0 w A ls := fun i hi => by
 have hlen := hv.length
 rcases h.form with ⟨_, _, h0⟩ | ⟨g, cur, h1, h2, h3, h4, h5, h6⟩
 ·rw [h0] at hlen
  simp at hlen
  omega
 ·obtain ⟨v, hvi, l', Ai, ci, e1, e2, e3, e4, e5, _⟩ := hv.get i hi
  subst e2
  have e1 : l' = ls.getD i [] := e1
  rw [← e1]
  refine ⟨g, 0, Ai, ci, h1, h3, ?_, e5, e4, e3⟩
  rw [h4.cell, Nat.zero_add, ← Array.getElem?_toList, ← hvi, ← h6, List.getElem?_take, if_pos (by omega)]
theorem op_app_bsl {o : Oper} {a : Act} {w : World} {Q : Exit → Act → World → Prop} {K : Act → World → Prop} (s x : Operand) (ho : o.op = .call { callee := .builtin .append, args := #[s, x], argTypes := #[58, 58] })
  {base g c c2 : Nat} {A : Option Addr} {vs us : List Value} {t : TypeId} (hs : a.eval s = .slice A vs.length c) (hx : a.eval x = .slice (some ⟨g, 0, none⟩) us.length c2) (hown : OwnS base w A c vs) (hg : Blk w g t us.toArray) (h1 : ∀ u ∈ us, u.oneCell' = true) (hlen : vs.length + us.length ≤ 1000) (hbase : base ≤ w.heap.size)
  (h : ∀ (A' : Option Addr) (c' : Nat) (w' : World), OwnS base w' A' c' (vs ++ us) → Below base w w' → w.grownBy w' (blkOf A) → K (a.put o.dst (.slice A' (vs ++ us).length c')) w') : o.wp Tryd.prog a w K Q := by
 obtain ⟨i0, hi0, hz0, hz1, hz2⟩ := info_parts bsl_info
 obtain ⟨v', w', hrun, h2, h3, _, h5⟩ := run_append_own_at (P := Tryd.prog) w base 58 o.type 23 i0 (.slice none 0 0) 1 24 Tryd.underlying58 hi0 hz0 hz1 hz2 rfl (by decide) _ _ _ hown ⟨g, 0, none⟩ us.length c2 us (by rw [Nat.mul_one])
  (by
   intro j u hu
   have hadd : (⟨g, 0, none⟩ : Addr).add j = ⟨g, j, none⟩ := by unfold Addr.add; split <;> simp_all
   rw [hadd, hg.cell, List.getElem?_toArray]
   exact hu) h1 (by unfold maxLen; omega) (by omega) hbase
 rw [ownBlock_slice] at h3
 have hv : ∃ A' c', v' = .slice A' (vs ++ us).length c' := by
  rcases h2.2 with ⟨h, h0⟩ | ⟨g, cap, cur, h, _⟩
  ·exact ⟨none, 0, by rw [h, List.length_append, h0]⟩
  ·exact ⟨_, cap, by rw [h, List.length_append]⟩
 obtain ⟨A', c', rfl⟩ := hv
 have hB : Below base w w' := ⟨h3.os, h3.tape, h3.output, h3.size, fun k hk => h3.block k (Nat.lt_of_lt_of_le hk hbase) (by
  rcases hown.form with ⟨rfl, _, _⟩ | ⟨g', cur, rfl, hge, _⟩
  ·simp [blkOf]
  ·simp [blkOf]; omega)⟩
 unfold Oper.wp execOp
 simp only [ho, resolve, invoke, builtin, Sem.run_bind, Sem.run_pure, Result.andThen_ok, List.map_toArray, List.map_cons, List.map_nil, hs, hx, hrun]
 exact h A' c' w' (by unfold OwnS; rw [List.length_append]; simpa using h2) hB h3
end Go.Proofs.YtcmllcmcbamlbaaDoor
namespace Go.Proofs.YtcmllcmcbamlbaaDoor
open Go.RowKit
def LsAt (ls : List (List Int)) (v : Value) (w : World) : Prop := ∃ vs A c, v = .slice A vs.length c ∧ OwnS 0 w A c vs ∧ LsV w vs ls
theorem LsAt.after {ls : List (List Int)} {v : Value} {w w' : World} (h : LsAt ls v w) (hb : Below w.heap.size w w') : LsAt ls v w' := by
 obtain ⟨vs, A, c, h1, h2, h3⟩ := h
 exact ⟨vs, A, c, h1, h2.after hb, h3.after hb⟩
def FItem.ls (t : Nat) (ls : List (List Int)) : FItem := { reads := [t], fact := fun xs w => ∃ v, xs = [v] ∧ LsAt ls v w, keeps := fun _ _ _ hb ⟨v, h1, h2⟩ => ⟨v, h1, h2.after hb⟩ }
theorem FItem.ls_holds {t : Nat} {ls : List (List Int)} {a : Act} {w : World} : (FItem.ls t ls).holds a w ↔ LsAt ls (a.tmps.getD t undef) w := by
 constructor
 ·rintro ⟨v, h1, h2⟩
  injection h1 with h1
  have h1 : a.tmps.getD t undef = v := h1
  rwa [h1]
 ·exact fun h => ⟨_, rfl, h⟩
theorem ls_put {a : Act} {d : Nat} {ls : List (List Int)} {v : Value} {w : World} {sz : Nat} (hs : SzIs a sz) (hd : d < sz) (h : LsAt ls v w) : (FItem.ls d ls).holds (a.put (some d) v) w := FItem.ls_holds.2 (by rw [put_self a d v (by rw [hs.out]; exact hd)]; exact h)
/-- A slice of slices that has just been built. -/
theorem LsAt.new {w : World} {vs : List Value} {ls : List (List Int)} (hv : LsV w vs ls) (hc : vs.length ≤ 1000) :
  LsAt ls (.slice (some ⟨w.heap.size, 0, none⟩) vs.length vs.length) (w.alloc (.cells vs.toArray 23)) :=
 ⟨vs, _, _, rfl, OwnS.new (Blk.new w _ _) (Nat.zero_le _) hc, hv.after (bz_alloc (bz_refl w) _)⟩
theorem Ls0.bss {w : World} {A : Option Addr} {ls : List (List Int)} (h : Ls0 w A ls) : Bss w A ls := fun i hi => by
 obtain ⟨b, o, Ai, ci, h1, h2, h3, h4, h5, _⟩ := h i hi
 exact ⟨b, o, Ai, ci, h1, h2, h3, h4, h5⟩
/-- 'joined' of such a slot. -/
theorem LsAt.joined {ls : List (List Int)} {v : Value} {w : World} (h : LsAt ls v w) (hn : ls.length ≤ 10000000000000) (hl : (flat ls).length ≤ 10000000000000) : Calls Tryd.prog 18 #[v] w (OutB w (flat ls)) := by
 obtain ⟨vs, A, c, rfl, h2, h3⟩ := h
 rw [h3.length]
 exact c_joined A c ls w (h2.ls0 h3).bss hn hl
/-- A slot with bytes that 'OutB' left. -/
theorem OutB.at0 {w w' : World} {l : List Int} {e : Ending} (h : OutB w l e w') : ∃ v, e = .returned v ∧ BsAt 0 l v w' ∧ Below w.heap.size w w' := h.read.at_ (Nat.zero_le _)
theorem BsAt.one {B : Nat} {l : List Int} {v : Value} {w : World} (h : BsAt B l v w) : v.oneCell' = true := by
 obtain ⟨l', A, c, _, rfl, _⟩ := h
 rfl
section
variable {P : Program} {o : Oper} {a : Act} {w : World} {Q : Exit → Act → World → Prop} {K : Act → World → Prop}
/-- A part of a block loaded whole. -/
theorem op_load_part (ty : TypeId) (x : Operand) (ho : o.op = .load ty x) (g off : Nat) (hx : a.eval x = .pointer (some ⟨g, off, none⟩)) (t : TypeId) (cur part : Array Value) (d : TypeDesc) (hg : Blk w g t cur) (hoff : off + part.size ≤ cur.size)
  (hu : P.underlying ty = some d) (hd : (match d with | .struct _ | .array _ _ => true | _ => false) = true) (hi : (P.info? ty).map (·.size) = some part.size) (hp : cur.extract off (off + part.size) = part)
  (h : K (a.put o.dst (.agg part)) w) : o.wp P a w K Q := by
 unfold Oper.wp execOp
 have := run_load_part (P := P) ty g off t cur part.size d hg hoff hu hd hi
 rw [hp] at this
 simp only [ho, hx, Instr.loadAt, Instr.sureAddr, Sem.run_bind, Sem.run_pure, Result.andThen_ok, this]
 exact h
end
end Go.Proofs.YtcmllcmcbamlbaaDoor
namespace Go.Proofs.YtcmllcmcbamlbaaDoor
open Go.RowKit
/-- A slice: where it lies, its room, what it reads. -/
structure HSl where
 A : Option Addr
 c : Nat
 l : List Int
def HSl.v (s : HSl) : Value := .slice s.A s.l.length s.c
structure HSl.ok (s : HSl) (w : World) : Prop where
 bs : Bs w s.A s.l
 fm : Fm s.A s.l.length s.c
 cap : s.l.length ≤ s.c
 b8 : Bytes s.l
 len : s.l.length ≤ 1000000000
 blk : ∀ k, blkOf s.A = some k → k < w.heap.size
theorem HSl.ok.after {s : HSl} {w w' : World} (h : s.ok w) (hb : Below w.heap.size w w') : s.ok w' := ⟨h.bs.after hb, h.fm, h.cap, h.b8, h.len, fun k hk => Nat.lt_of_lt_of_le (h.blk k hk) hb.size⟩
theorem HSl.ok.at0 {s : HSl} {w : World} (h : s.ok w) : BsAt 0 s.l s.v w := ⟨s.l, s.A, s.c, rfl, rfl, h.fm, h.cap, h.bs, fun k hk => ⟨Nat.zero_le _, h.blk k hk⟩⟩
/-- What BsAt says, as a slice of a header's. -/
theorem BsAt.sl {B : Nat} {l : List Int} {v : Value} {w : World} (h : BsAt B l v w) (h8 : Bytes l) (hn : l.length ≤ 1000000000) : ∃ s : HSl, v = s.v ∧ s.ok w ∧ Is s.l l := by
 obtain ⟨l', A, c, h1, h2, h3, h4, h5, h6⟩ := h
 have e : l' = l := h1
 subst e
 exact ⟨⟨A, c, l'⟩, h2, ⟨h5, h3, h4, h8, hn, fun k hk => (h6 k hk).2⟩, rfl⟩
def HSl.nil : HSl := ⟨none, 0, []⟩
theorem HSl.nil_ok (w : World) : HSl.nil.ok w := ⟨Bs.nil _ _, .inl ⟨rfl, rfl, rfl⟩, Nat.le_refl _, (fun x hx => by cases hx), by decide, (fun k hk => by cases hk)⟩

theorem step_un {P : Program} {ops : Array Oper} {Q : Exit → Act → World → Prop} {o : Oper} {a : Act} {w : World} {K : Act → World → Prop} {j d : Nat} {b : Bool} {oj : Oper} (hg : o.guard = some (j, b)) (hj : ops[j]? = some oj) (hd : oj.dst = some d) (hv : a.tmps.getD d undef = undef) (h : K (a.put o.dst undef) w) :
  if Region.wanted o (yielded ops a.tmps) = true then o.wp P a w K Q else K (a.put o.dst undef) w := by
 have hy : yielded ops a.tmps j = none := by
  unfold yielded
  rw [hj]
  simp only [Option.bind_some, hd]
  rw [Array.getD_eq_getD_getElem?] at hv
  cases h : a.tmps[d]? with
  | none => rfl
  | some v =>
   rw [h] at hv
   simp only [Option.getD_some] at hv
   subst hv
   rfl
 rw [if_neg (by simp [Region.wanted, hg, hy])]
 exact h
theorem gu {a : Act} {t : Nat} {v : Value} (h : a.tmps[t]?.getD undef = v) : a.eval (.tmp t) = v := by
 show a.tmps.getD t undef = v
 rw [Array.getD_eq_getD_getElem?]
 exact h
theorem BsAt.cells {B : Nat} {l : List Int} {v : Value} {w : World} (h : BsAt B l v w) : v.cells = #[v] := by
 obtain ⟨l', A, c, _, rfl, _⟩ := h
 rfl
/-- A header of the reference's, and of the thin package's. -/
structure Hd where
 vb : Int
 va : Int
 ch : ByteArray
 ht : Int
 sec : Int
 ns : Int
 bh : HSl
 bt : Int
 bp : HSl
 hh : Nat → HSl
 pr : ByteArray
def Hd.cells (H : Hd) : Array Value :=
 #[.int .i64 H.vb, .int .i64 H.va, .string H.ch, .int .i64 H.ht, .int .i64 H.sec, .int .i64 H.ns, H.bh.v, .int .i64 H.bt, H.bp.v, (H.hh 0).v, (H.hh 1).v, (H.hh 2).v, (H.hh 3).v, (H.hh 4).v, (H.hh 5).v, (H.hh 6).v, (H.hh 7).v, .string H.pr]
/-- What its numbers are. -/
structure Hd.num (H : Hd) : Prop where
 vb : 0 ≤ H.vb ∧ H.vb ≤ 9223372036854775807
 va : 0 ≤ H.va ∧ H.va ≤ 9223372036854775807
 ht : 0 ≤ H.ht ∧ H.ht ≤ 9223372036854775807
 sec : 0 ≤ H.sec ∧ H.sec ≤ 4000000000
 ns : 0 ≤ H.ns ∧ H.ns ≤ 999999999
 bt : 0 ≤ H.bt ∧ H.bt ≤ 4294967295
 ch : H.ch.size ≤ 1000000000
 pr : H.pr.size ≤ 1000000000
structure Hd.ok (H : Hd) (w : World) : Prop where
 bh : H.bh.ok w
 bp : H.bp.ok w
 hh : ∀ i, i < 8 → (H.hh i).ok w
theorem Hd.ok.after {H : Hd} {w w' : World} (h : H.ok w) (hb : Below w.heap.size w w') : H.ok w' := ⟨h.bh.after hb, h.bp.after hb, fun i hi => (h.hh i hi).after hb⟩
/-- The leaves ahead of the sums; all of them. -/
def Hd.leaves5 (H : Hd) : List (List Int) :=
 [numL 1 H.vb.toNat ++ numL 2 H.va.toNat, someL 1 (bytesOf H.ch), numL 1 H.ht.toNat, numL 1 H.sec.toNat ++ numL 2 H.ns.toNat, bidL H.bh.l H.bt H.bp.l]
def Hd.sums (H : Hd) (k : Nat) : List (List Int) := (List.range k).map fun i => someL 1 (H.hh i).l
def Hd.leaves (H : Hd) : List (List Int) := H.leaves5 ++ H.sums 8 ++ [someL 1 (bytesOf H.pr)]
theorem Hd.sums_succ (H : Hd) (k : Nat) : H.sums (k + 1) = H.sums k ++ [someL 1 (H.hh k).l] := by
 unfold Hd.sums
 rw [List.range_succ, List.map_append]
 rfl
theorem flat2 (a b : List Int) : flat [a, b] = a ++ b := by simp [flat]
theorem vi_bytes (n : Nat) : Bytes (vi n) := by
 induction n using Nat.strongRecOn with
 | _ n ih =>
  by_cases h : n < 128
  ·rw [vi_lo n h]; intro x hx; rw [List.mem_singleton.1 hx]; unfold U8; omega
  ·rw [vi_hi n h]
   intro x hx
   rcases List.mem_cons.1 hx with rfl | hx
   ·unfold U8; omega
   ·exact ih (n / 128) (by omega) x hx
theorem Bytes.cons {x : Int} {l : List Int} (h : U8 x) (hl : Bytes l) : Bytes (x :: l) := fun y hy => by
 rcases List.mem_cons.1 hy with rfl | hy
 ·exact h
 ·exact hl y hy
theorem numL_bytes (f n : Nat) (hf : f ≤ 15) : Bytes (numL f n) := by
 unfold numL
 split
 ·exact Bytes.nil
 ·exact Bytes.cons (by unfold U8; omega) (vi_bytes _)
theorem withinL_bytes (f : Nat) (b : List Int) (hf : f ≤ 15) (hb : Bytes b) : Bytes (withinL f b) := by
 unfold withinL
 exact Bytes.cons (by unfold U8; omega) ((vi_bytes _).append hb)
theorem someL_bytes (f : Nat) (b : List Int) (hf : f ≤ 15) (hb : Bytes b) : Bytes (someL f b) := by
 unfold someL
 split
 ·exact Bytes.nil
 ·exact withinL_bytes f b hf hb
theorem bidL_bytes (s : List Int) (p : Int) (r : List Int) (hs : Bytes s) (hr : Bytes r) : Bytes (bidL s p r) := by
 unfold bidL pshL
 exact (someL_bytes 1 s (by decide) hs).append (withinL_bytes 2 _ (by decide) ((numL_bytes 1 _ (by decide)).append (someL_bytes 2 r (by decide) hr)))
theorem bidL_len (s : List Int) (p : Int) (r : List Int) (hs : s.length ≤ 1000000000) (hp : p ≤ 4294967295) (hr : r.length ≤ 1000000000) : (bidL s p r).length ≤ 3000000000 := by
 unfold bidL
 have h1 := someL_len 1 s (by omega)
 have h2 := pshL_len p r hp (by omega)
 have h3 := withinL_len 2 (pshL p r) (by omega)
 rw [List.length_append]
 omega
theorem bytesOf_bytes (s : ByteArray) : Bytes (bytesOf s) := fun x hx => bytesOf_range s x hx
theorem Small.nil : Small [] := fun x hx => by cases hx
theorem Small.cons {x : List Int} {l : List (List Int)} (h8 : Bytes x) (hn : x.length ≤ 100000000000) (h : Small l) : Small (x :: l) := fun y hy => by
 rcases List.mem_cons.1 hy with rfl | hy
 ·exact ⟨h8, hn⟩
 ·exact h y hy
theorem Small.append {a b : List (List Int)} (ha : Small a) (hb : Small b) : Small (a ++ b) := fun x hx => by
 rcases List.mem_append.1 hx with h | h
 ·exact ha x h
 ·exact hb x h
theorem Hd.small {H : Hd} {w : World} (hn : H.num) (hk : H.ok w) : Small H.leaves := by
 have e0 := numL_len 1 H.vb.toNat (by have := hn.vb; omega)
 have e1 := numL_len 2 H.va.toNat (by have := hn.va; omega)
 have e2 := numL_len 1 H.ht.toNat (by have := hn.ht; omega)
 have e3 := numL_len 1 H.sec.toNat (by have := hn.sec; omega)
 have e4 := numL_len 2 H.ns.toNat (by have := hn.ns; omega)
 have e5 := someL_len 1 (bytesOf H.ch) (by rw [bytesOf_length]; have := hn.ch; omega)
 have e6 := someL_len 1 (bytesOf H.pr) (by rw [bytesOf_length]; have := hn.pr; omega)
 have e7 := bidL_len H.bh.l H.bt H.bp.l hk.bh.len hn.bt.2 hk.bp.len
 rw [bytesOf_length] at e5 e6
 have hc := hn.ch
 have hp := hn.pr
 unfold Hd.leaves Hd.leaves5
 refine ((Small.cons ?_ ?_ (Small.cons ?_ ?_ (Small.cons ?_ ?_ (Small.cons ?_ ?_ (Small.cons ?_ ?_ Small.nil))))).append ?_).append (Small.cons ?_ ?_ Small.nil)
 ·exact (numL_bytes 1 _ (by decide)).append (numL_bytes 2 _ (by decide))
 ·rw [List.length_append]; omega
 ·exact someL_bytes 1 _ (by decide) (bytesOf_bytes _)
 ·omega
 ·exact numL_bytes 1 _ (by decide)
 ·omega
 ·exact (numL_bytes 1 _ (by decide)).append (numL_bytes 2 _ (by decide))
 ·rw [List.length_append]; omega
 ·exact bidL_bytes _ _ _ hk.bh.b8 hk.bp.b8
 ·omega
 ·intro x hx
  obtain ⟨i, hi, rfl⟩ := List.mem_map.1 hx
  have hi := List.mem_range.1 hi
  have := (hk.hh i hi).len
  have h := someL_len 1 (H.hh i).l (by omega)
  exact ⟨someL_bytes 1 _ (by decide) (hk.hh i hi).b8, by omega⟩
 ·exact someL_bytes 1 _ (by decide) (bytesOf_bytes _)
 ·omega
/-- A string's bytes, just made. -/
theorem conv_at (w : World) (e : TypeId) (s : ByteArray) : BsAt 0 (bytesOf s) (.slice (some ⟨w.heap.size, 0, none⟩) s.size (grownCap w s.size 0 e)) (Lib.bytesWorld w e s) :=
 ⟨bytesOf s, _, _, rfl, by rw [bytesOf_length], .inr ⟨_, _, rfl⟩, by rw [bytesOf_length]; exact grownCap_ge _ _ _ _, bs_conv w e s, fun k hk => ⟨Nat.zero_le _, by
  injection hk with hk
  have hk : w.heap.size = k := hk
  rw [Lib.bytesWorld_size]
  omega⟩⟩
end Go.Proofs.YtcmllcmcbamlbaaDoor
namespace Go.Proofs.YtcmllcmcbamlbaaDoor
open Go.RowKit
def FarS (g : Option Nat) (vs : List Value) : Prop := ∀ v ∈ vs, ∀ A n c, v = .slice A n c → ∀ k, blkOf A = some k → some k ≠ g
theorem BsAt.gb {B : Nat} {l : List Int} {v : Value} {w w' : World} {g : Option Nat} (h : BsAt B l v w) (hg : w.grownBy w' g) (hf : ∀ A n c, v = .slice A n c → ∀ k, blkOf A = some k → some k ≠ g) : BsAt B l v w' := by
 obtain ⟨l', A, c, h1, rfl, h3, h4, h5, h6⟩ := h
 refine ⟨l', A, c, h1, rfl, h3, h4, h5.grown hg (fun hx e => ?_), fun k hk => ⟨(h6 k hk).1, Nat.lt_of_lt_of_le (h6 k hk).2 hg.size⟩⟩
 obtain ⟨k, hk, _⟩ := h5.blk hx
 exact hf A _ _ rfl k hk (by rw [← e, hk])
theorem LsV.gb {w w' : World} {g : Option Nat} (hg : w.grownBy w' g) : ∀ {vs : List Value} {ls : List (List Int)}, LsV w vs ls → FarS g vs → LsV w' vs ls
 | [], [], _, _ => trivial
 | v :: _, _ :: _, h, hf => ⟨h.1.gb hg (hf v (List.mem_cons_self ..)), LsV.gb hg h.2 fun x hx => hf x (List.mem_cons_of_mem _ hx)⟩
 | [], _ :: _, h, _ => h.elim
 | _ :: _, [], h, _ => h.elim
theorem LsV.lt {w : World} : ∀ {vs : List Value} {ls : List (List Int)}, LsV w vs ls → FarS (some w.heap.size) vs
 | [], [], _ => fun v hv => by cases hv
 | v :: vs, _ :: _, h => fun x hx A n c e k hk => by
  rcases List.mem_cons.1 hx with rfl | hx
  ·obtain ⟨l', A', c', _, e', _, _, _, h6⟩ := h.1
   rw [e] at e'
   injection e' with e1 _ _
   subst e1
   have := (h6 k hk).2
   intro e2
   injection e2 with e2
   omega
  ·exact LsV.lt h.2 x hx A n c e k hk
 | [], _ :: _, h => h.elim
 | _ :: _, [], h => h.elim
/-- The list of leaves. -/
structure Leaves (base : Nat) (w : World) (A : Option Addr) (c : Nat) (vs : List Value) (ls : List (List Int)) : Prop where
 own : OwnS base w A c vs
 ls : LsV w vs ls
 far : FarS (blkOf A) vs
theorem Leaves.nil (base : Nat) (w : World) : Leaves base w none 0 [] [] := ⟨OwnS.nil _ _, trivial, fun v hv => by cases hv⟩
theorem Leaves.after {base : Nat} {w w' : World} {A : Option Addr} {c : Nat} {vs : List Value} {ls : List (List Int)} (h : Leaves base w A c vs ls) (hb : Below w.heap.size w w') : Leaves base w' A c vs ls := ⟨h.own.after hb, h.ls.after hb, h.far⟩
theorem Leaves.length {base : Nat} {w : World} {A : Option Addr} {c : Nat} {vs : List Value} {ls : List (List Int)} (h : Leaves base w A c vs ls) : vs.length = ls.length := h.ls.length
theorem Leaves.ls0 {base : Nat} {w : World} {A : Option Addr} {c : Nat} {vs : List Value} {ls : List (List Int)} (h : Leaves base w A c vs ls) : Ls0 w A ls := h.own.ls0 h.ls
theorem OwnS.blk_lt {base : Nat} {w : World} {A : Option Addr} {c : Nat} {vs : List Value} (h : OwnS base w A c vs) : ∀ k, blkOf A = some k → base ≤ k ∧ k < w.heap.size := fun k hk => by
 rcases h.form with ⟨rfl, _, _⟩ | ⟨g, cur, rfl, h1, h2, _⟩
 ·cases hk
 ·injection hk with hk
  have hk : g = k := hk
  omega
theorem OwnS.ne_blk {base g : Nat} {w : World} {A : Option Addr} {c : Nat} {vs : List Value} {t : TypeId} {cs : Array Value} (h : OwnS base w A c vs) (hg : Blk w g t cs) (ht : t ≠ 23) : some g ≠ blkOf A := by
 rcases h.form with ⟨rfl, _, _⟩ | ⟨g', cur, rfl, _, _, hb, _⟩
 ·simp [blkOf]
 ·intro e
  injection e with e
  have e : g = g' := e
  subst e
  unfold Blk at hg hb
  rw [hg] at hb
  injection hb with hb
  injection hb with _ e2 _
  exact ht e2
/-- A built slice of slices. -/
theorem Leaves.new {base : Nat} {w : World} {vs : List Value} {ls : List (List Int)} (hv : LsV w vs ls) (hb : base ≤ w.heap.size) (hc : vs.length ≤ 1000) :
  Leaves base (w.alloc (.cells vs.toArray 23)) (some ⟨w.heap.size, 0, none⟩) vs.length vs ls :=
 ⟨OwnS.new (Blk.new w _ _) hb hc, hv.after (bz_alloc (bz_refl w) _), hv.lt⟩
theorem OwnS.cap {base : Nat} {w : World} {A : Option Addr} {c : Nat} {vs : List Value} (h : OwnS base w A c vs) : vs.length ≤ c := by
 rcases h.form with ⟨_, _, rfl⟩ | ⟨g, cur, _, _, _, _, h1, _⟩
 ·simp
 ·exact h1
theorem run_app_bsl (w : World) (ty : TypeId) {base g c c2 : Nat} {A : Option Addr} {vs us : List Value} {t : TypeId} (hown : OwnS base w A c vs) (hg : Blk w g t us.toArray) (h1 : ∀ u ∈ us, u.oneCell' = true) (hlen : vs.length + us.length ≤ 1000) (hbase : base ≤ w.heap.size) :
  ∃ A' c' w', (Builtin.append_ #[58, 58] ty #[.slice A vs.length c, .slice (some ⟨g, 0, none⟩) us.length c2]).run Tryd.prog w = .ok (.slice A' (vs ++ us).length c') w' ∧ OwnS base w' A' c' (vs ++ us) ∧ Below base w w' ∧ w.grownBy w' (blkOf A) ∧ (blkOf A' = blkOf A ∨ blkOf A' = some w.heap.size) := by
 obtain ⟨i0, hi0, hz0, hz1, hz2⟩ := info_parts bsl_info
 obtain ⟨v', w', hrun, h2, h3, _, h5⟩ := run_append_own_at (P := Tryd.prog) w base 58 ty 23 i0 (.slice none 0 0) 1 24 Tryd.underlying58 hi0 hz0 hz1 hz2 rfl (by decide) _ _ _ hown ⟨g, 0, none⟩ us.length c2 us (by rw [Nat.mul_one])
  (by
   intro j u hu
   have hadd : (⟨g, 0, none⟩ : Addr).add j = ⟨g, j, none⟩ := by unfold Addr.add; split <;> simp_all
   rw [hadd, hg.cell, List.getElem?_toArray]
   exact hu) h1 (by unfold maxLen; omega) (by omega) hbase
 rw [ownBlock_slice] at h3 h5
 have hv : ∃ A' c', v' = .slice A' (vs ++ us).length c' := by
  rcases h2.2 with ⟨h, h0⟩ | ⟨g, cap, cur, h, _⟩
  ·exact ⟨none, 0, by rw [h, List.length_append, h0]⟩
  ·exact ⟨_, cap, by rw [h, List.length_append]⟩
 obtain ⟨A', c', rfl⟩ := hv
 rw [ownBlock_slice] at h5
 have hB : Below base w w' := ⟨h3.os, h3.tape, h3.output, h3.size, fun k hk => h3.block k (Nat.lt_of_lt_of_le hk hbase) (by
  rcases hown.form with ⟨rfl, _, _⟩ | ⟨g', cur, rfl, hge, _⟩
  ·simp [blkOf]
  ·simp [blkOf]; omega)⟩
 exact ⟨A', c', w', hrun, by unfold OwnS; rw [List.length_append]; simpa using h2, hB, h3, h5⟩
/-- One leaf put behind. -/
theorem op_app_leaf {o : Oper} {a : Act} {w : World} {Q : Exit → Act → World → Prop} {K : Act → World → Prop} (s x : Operand) (ho : o.op = .call { callee := .builtin .append, args := #[s, x], argTypes := #[58, 58] })
  {base g c c2 B : Nat} {A : Option Addr} {vs : List Value} {ls : List (List Int)} {v : Value} {l : List Int} {t : TypeId} (hs : a.eval s = .slice A vs.length c) (hx : a.eval x = .slice (some ⟨g, 0, none⟩) 1 c2) (hL : Leaves base w A c vs ls) (hg : Blk w g t #[v]) (hv : BsAt B l v w) (hAB : ∀ k, blkOf A = some k → k < B) (hlen : vs.length ≤ 100) (hbase : base ≤ w.heap.size)
  (h : ∀ (vs' : List Value) (A' : Option Addr) (c' : Nat) (w' : World), Leaves base w' A' c' vs' (ls ++ [l]) → Below base w w' → w.grownBy w' (blkOf A) → K (a.put o.dst (.slice A' vs'.length c')) w') : o.wp Tryd.prog a w K Q := by
 have hvf : ∀ A' n c, v = .slice A' n c → ∀ k, blkOf A' = some k → some k ≠ blkOf A := by
  intro A' n c e k hk e2
  obtain ⟨l', A2, c2, _, e', _, _, _, h6⟩ := hv
  rw [e] at e'
  injection e' with e1 _ _
  subst e1
  have := (h6 k hk).1
  have := hAB k e2.symm
  omega
 obtain ⟨A', c', w', hrun, ho', hb', hg', he⟩ := run_app_bsl w o.type (c2 := c2) (us := [v]) hL.own hg (by intro u hu; rw [List.mem_singleton.1 hu]; exact hv.one) (by simp; omega) hbase
 have hls : LsV w' (vs ++ [v]) (ls ++ [l]) := (hL.ls.gb hg' hL.far).append ⟨(hv.gb hg' hvf).less (Nat.zero_le _), trivial⟩
 have hlt1 : FarS (some w.heap.size) (vs ++ [v]) := (hL.ls.append (us := [v]) (ks := [l]) ⟨hv.less (Nat.zero_le _), trivial⟩).lt
 have hfar : FarS (blkOf A') (vs ++ [v]) := by
  rcases he with e | e
  ·rw [e]
   intro x hx
   rcases List.mem_append.1 hx with hx | hx
   ·exact hL.far x hx
   ·rw [List.mem_singleton.1 hx]; exact hvf
  ·rw [e]; exact hlt1
 have hx' : a.eval x = .slice (some ⟨g, 0, none⟩) [v].length c2 := hx
 unfold Oper.wp execOp
 simp only [ho, resolve, invoke, builtin, Sem.run_bind, Sem.run_pure, Result.andThen_ok, List.map_toArray, List.map_cons, List.map_nil, hs, hx', hrun]
 exact h _ A' c' w' ⟨ho', hls, hfar⟩ hb' hg'
/-- A slot that holds a slice of one slice of bytes, just built. -/
def OneAt (B : Nat) (l : List Int) (v : Value) (w : World) : Prop := ∃ (g c2 : Nat) (u : Value), v = .slice (some ⟨g, 0, none⟩) 1 c2 ∧ Blk w g 23 #[u] ∧ BsAt B l u w
theorem OneAt.after {B : Nat} {l : List Int} {v : Value} {w w' : World} (h : OneAt B l v w) (hb : Below w.heap.size w w') : OneAt B l v w' := by
 obtain ⟨g, c2, u, h1, h2, h3⟩ := h
 exact ⟨g, c2, u, h1, h2.after hb, h3.after hb⟩
def FItem.one (t B : Nat) (l : List Int) : FItem := { reads := [t], fact := fun vs w => ∃ v, vs = [v] ∧ OneAt B l v w, keeps := fun _ _ _ hb ⟨v, h1, h2⟩ => ⟨v, h1, h2.after hb⟩ }
theorem FItem.one_holds {t B : Nat} {l : List Int} {a : Act} {w : World} : (FItem.one t B l).holds a w ↔ OneAt B l (a.tmps.getD t undef) w := by
 constructor
 ·rintro ⟨v, h1, h2⟩
  injection h1 with h1
  have h1 : a.tmps.getD t undef = v := h1
  rwa [h1]
 ·exact fun h => ⟨_, rfl, h⟩
theorem one_put {a : Act} {d B : Nat} {l : List Int} {v : Value} {w : World} {sz : Nat} (hs : SzIs a sz) (hd : d < sz) (h : OneAt B l v w) : (FItem.one d B l).holds (a.put (some d) v) w := FItem.one_holds.2 (by rw [put_self a d v (by rw [hs.out]; exact hd)]; exact h)
theorem OneAt.new {B : Nat} {l : List Int} {u : Value} {w : World} (h : BsAt B l u w) : OneAt B l (.slice (some ⟨w.heap.size, 0, none⟩) 1 1) (w.alloc (.cells #[u] 23)) :=
 ⟨_, _, u, rfl, Blk.new w _ _, h.after (bz_alloc (bz_refl w) _)⟩
end Go.Proofs.YtcmllcmcbamlbaaDoor
namespace Go.Proofs.YtcmllcmcbamlbaaDoor
open Go.RowKit
/-- A slice of structs of k cells that reads as a list of rows. -/
def RowsAt (w : World) (A : Option Addr) (k : Nat) (R : List (List Value)) : Prop :=
 ∀ i r, R[i]? = some r → r.length = k ∧ ∃ b o, A = some ⟨b, o, none⟩ ∧ b < w.heap.size ∧ ∀ j v, r[j]? = some v → w.cell? ⟨b, o + i * k + j, none⟩ = some v
theorem RowsAt.nil (w : World) (A : Option Addr) (k : Nat) : RowsAt w A k [] := fun i r h => by simp at h
theorem RowsAt.after {w w' : World} {A : Option Addr} {k : Nat} {R : List (List Value)} (h : RowsAt w A k R) (hb : Below w.heap.size w w') : RowsAt w' A k R := fun i r hr => by
 obtain ⟨h1, b, o, e, hlt, hc⟩ := h i r hr
 exact ⟨h1, b, o, e, Nat.lt_of_lt_of_le hlt hb.size, fun j v hj => (hb.cell (p := ⟨b, o + i * k + j, none⟩) hlt).trans (hc j v hj)⟩
theorem RowsAt.take {w : World} {A : Option Addr} {k : Nat} {R : List (List Value)} (h : RowsAt w A k R) (n : Nat) : RowsAt w A k (R.take n) := fun i r hr => by
 rw [List.getElem?_take] at hr
 split at hr
 ·exact h i r hr
 ·cases hr
/-- The block of a list that isn't empty. -/
theorem RowsAt.at_ {w : World} {A : Option Addr} {k : Nat} {R : List (List Value)} (h : RowsAt w A k R) (hn : 0 < R.length) :
  ∃ b o, A = some ⟨b, o, none⟩ ∧ b < w.heap.size ∧ ∀ i r, R[i]? = some r → r.length = k ∧ ∀ j v, r[j]? = some v → w.cell? ⟨b, o + i * k + j, none⟩ = some v := by
 obtain ⟨_, b, o, e, hlt, _⟩ := h 0 R[0] (List.getElem?_eq_getElem hn)
 refine ⟨b, o, e, hlt, fun i r hr => ?_⟩
 obtain ⟨h1, b', o', e', _, hc⟩ := h i r hr
 rw [e] at e'
 injection e' with e'
 injection e' with e1 e2
 subst e1 e2
 exact ⟨h1, hc⟩
theorem addr_add (b o j : Nat) : (⟨b, o, none⟩ : Addr).add j = ⟨b, o + j, none⟩ := by unfold Addr.add; split <;> simp_all

section
variable {P : Program} {o : Oper} {a : Act} {w : World} {Q : Exit → Act → World → Prop} {K : Act → World → Prop}
theorem run_load_row (ty : TypeId) (p : Addr) (r : List Value) (d : TypeDesc) (h : ∀ j v, r[j]? = some v → w.cell? (p.add j) = some v)
  (hu : P.underlying ty = some d) (hd : (match d with | .struct _ | .array _ _ => true | _ => false) = true) (hi : (P.info? ty).map (·.size) = some r.length) :
  (loadVar ty p).run P w = .ok (.agg r.toArray) w := by
 have hl : (loadCells p r.length).run P w = .ok r.toArray w := run_loadCells_list (P := P) w p r h
 cases hq : P.info? ty with
 | none => simp [hq] at hi
 | some i =>
  have hs : i.size = r.length := by simpa [hq] using hi
  have hagg : (isAgg ty).run P w = .ok true w := by
   unfold isAgg
   rw [Sem.run_bind, run_underlying hu w]
   cases d <;> simp_all
  simp [loadVar, Sem.run_bind, hagg, sizeOf, typeInfo, hq, hs, hl]
/-- A struct loaded whole, its cells known one by one. -/
theorem op_load_cells (ty : TypeId) (x : Operand) (ho : o.op = .load ty x) (b off : Nat) (hx : a.eval x = .pointer (some ⟨b, off, none⟩)) (r : List Value) (d : TypeDesc) (hc : ∀ j v, r[j]? = some v → w.cell? ⟨b, off + j, none⟩ = some v)
  (hu : P.underlying ty = some d) (hd : (match d with | .struct _ | .array _ _ => true | _ => false) = true) (hi : (P.info? ty).map (·.size) = some r.length)
  (h : K (a.put o.dst (.agg r.toArray)) w) : o.wp P a w K Q := by
 have := run_load_row (P := P) (w := w) ty ⟨b, off, none⟩ r d (fun j v hj => by rw [addr_add]; exact hc j v hj) hu hd hi
 unfold Oper.wp execOp
 simp only [ho, hx, Instr.loadAt, Instr.sureAddr, Sem.run_bind, Sem.run_pure, Result.andThen_ok, this]
 exact h
/-- A struct stored whole into a part of a block. -/
theorem op_store_part (ty : TypeId) (x y : Operand) (ho : o.op = .store ty x y) (g off : Nat) (hx : a.eval x = .pointer (some ⟨g, off, none⟩)) (cs : Array Value) (hy : a.eval y = .agg cs)
  (t : TypeId) (cur : Array Value) (hg : Blk w g t cur) (hoff : off + cs.size ≤ cur.size) (hi : (P.info? ty).map (·.size) = some cs.size) (h1 : ∀ v ∈ cs.toList, v.oneCell' = true)
  (h : K (a.put o.dst undef) (w.setRow g (putAt cur off cs))) : o.wp P a w K Q := by
 unfold Oper.wp execOp
 simp only [ho, hx, hy, Instr.storeAt, Instr.sureAddr, Sem.run_bind, Sem.run_pure, Result.andThen_ok, run_store_part (P := P) ty g off t cur cs hg hoff hi h1]
 exact h
end

/-! ### Owned rows -/
def OwnR (e : TypeId) (k base : Nat) (w : World) (A : Option Addr) (c : Nat) (R : List (List Value)) : Prop :=
 (∀ r ∈ R, r.length = k) ∧ w.ownsRow base e k (.slice A R.length c) R.length R.flatten
theorem flatten_len {α : Type} {k : Nat} : ∀ {R : List (List α)}, (∀ r ∈ R, r.length = k) → R.flatten.length = R.length * k
 | [], _ => by simp
 | r :: R, h => by
  rw [List.flatten_cons, List.length_append, h r (List.mem_cons_self ..), flatten_len (fun x hx => h x (List.mem_cons_of_mem _ hx)), List.length_cons, Nat.succ_mul]
  omega
theorem flatten_get {α : Type} {k : Nat} : ∀ {R : List (List α)}, (∀ r ∈ R, r.length = k) → ∀ (i : Nat) (r : List α), R[i]? = some r → ∀ j, j < k → R.flatten[i * k + j]? = r[j]?
 | [], _, i, r, hr, j, hj => by simp at hr
 | x :: R, h, 0, r, hr, j, hj => by
  simp at hr
  subst hr
  rw [List.flatten_cons, Nat.zero_mul, Nat.zero_add, List.getElem?_append_left (by rw [h x (List.mem_cons_self ..)]; exact hj)]
 | x :: R, h, i + 1, r, hr, j, hj => by
  have hx := h x (List.mem_cons_self ..)
  rw [List.flatten_cons, List.getElem?_append_right (by rw [hx, Nat.succ_mul]; omega), hx]
  have := flatten_get (fun y hy => h y (List.mem_cons_of_mem _ hy)) i r (by simpa using hr) j hj
  rw [← this]
  congr 1
  rw [Nat.succ_mul]
  omega
theorem OwnR.nil (e : TypeId) (k base : Nat) (w : World) : OwnR e k base w none 0 [] := ⟨fun r hr => (by cases hr), World.ownsRow_nil w base _ k⟩
theorem OwnR.form {e : TypeId} {k base : Nat} {w : World} {A : Option Addr} {c : Nat} {R : List (List Value)} (h : OwnR e k base w A c R) : (A = none ∧ c = 0 ∧ R = []) ∨ ∃ g cur, A = some ⟨g, 0, none⟩ ∧ base ≤ g ∧ g < w.heap.size ∧ Blk w g e cur ∧ R.length ≤ c ∧ cur.size = c * k ∧ cur.toList.take (R.length * k) = R.flatten := by
 rcases h.2.2 with ⟨h1, h2⟩ | ⟨g, cap, cur, h1, h2, h3, h4, h5, h6, h7⟩
 ·left
  injection h1 with a b c
  exact ⟨a, c, List.eq_nil_of_length_eq_zero h2⟩
 ·right
  injection h1 with a b c
  subst c
  exact ⟨g, cur, a, h2, (Array.getElem?_eq_some_iff.1 h3).1, h3, h4, h6, h7⟩
theorem OwnR.cap {e : TypeId} {k base : Nat} {w : World} {A : Option Addr} {c : Nat} {R : List (List Value)} (h : OwnR e k base w A c R) : R.length ≤ c := by
 rcases h.form with ⟨rfl, rfl, rfl⟩ | ⟨g, cur, rfl, _, _, _, h1, _⟩
 ·simp
 ·exact h1
theorem OwnR.after {e : TypeId} {k base : Nat} {w w' : World} {A : Option Addr} {c : Nat} {R : List (List Value)} (h : OwnR e k base w A c R) (hb : Below w.heap.size w w') : OwnR e k base w' A c R := by
 refine ⟨h.1, h.2.1, ?_⟩
 rcases h.2.2 with h1 | ⟨g, cap, cur, h1, h2, h3, h4⟩
 ·exact .inl h1
 ·exact .inr ⟨g, cap, cur, h1, h2, (hb.block g (Array.getElem?_eq_some_iff.1 h3).1).trans h3, h4⟩
theorem OwnR.less {e : TypeId} {k base base' : Nat} {w : World} {A : Option Addr} {c : Nat} {R : List (List Value)} (h : OwnR e k base w A c R) (hb : base' ≤ base) : OwnR e k base' w A c R := by
 refine ⟨h.1, h.2.1, ?_⟩
 rcases h.2.2 with h1 | ⟨g, cap, cur, h1, h2, h3⟩
 ·exact .inl h1
 ·exact .inr ⟨g, cap, cur, h1, Nat.le_trans hb h2, h3⟩
theorem OwnR.rows {e : TypeId} {k base : Nat} {w : World} {A : Option Addr} {c : Nat} {R : List (List Value)} (h : OwnR e k base w A c R) : RowsAt w A k R := fun i r hr => by
 have hi : i < R.length := (List.getElem?_eq_some_iff.1 hr).1
 have hm : r ∈ R := List.mem_of_getElem? hr
 refine ⟨h.1 r hm, ?_⟩
 rcases h.form with ⟨_, _, h0⟩ | ⟨g, cur, h1, h2, h3, h4, h5, h6, h7⟩
 ·rw [h0] at hi; simp at hi
 ·refine ⟨g, 0, h1, h3, fun j v hj => ?_⟩
  have hjk : j < k := by rw [← h.1 r hm]; exact (List.getElem?_eq_some_iff.1 hj).1
  have hlt : i * k + j < R.length * k := by
   have : (i + 1) * k ≤ R.length * k := Nat.mul_le_mul_right k hi
   rw [Nat.succ_mul] at this
   omega
  rw [h4.cell, Nat.zero_add, ← Array.getElem?_toList]
  have e1 : (cur.toList.take (R.length * k))[i * k + j]? = cur.toList[i * k + j]? := by rw [List.getElem?_take, if_pos hlt]
  rw [← e1, h7, flatten_get h.1 i r hr j hjk, hj]
/-- One more row put behind. -/
theorem op_app_row {o : Oper} {a : Act} {w : World} {Q : Exit → Act → World → Prop} {K : Act → World → Prop} {t e : TypeId} (s x : Operand) (ho : o.op = .call { callee := .builtin .append, args := #[s, x], argTypes := #[t, t] })
  {z : Value} {k bytes : Nat} (ht : Tryd.prog.underlying t = some (.slice e)) (hi : (Tryd.prog.info? e).map (fun i => (i.zero, i.size, i.bytes)) = some (some z, k, bytes)) (hzs : z.cells.size = k) (hk : 0 < k)
  {base g c c2 : Nat} {A : Option Addr} {R : List (List Value)} {r : List Value} {t2 : TypeId} (hs : a.eval s = .slice A R.length c) (hx : a.eval x = .slice (some ⟨g, 0, none⟩) 1 c2) (hown : OwnR e k base w A c R) (hg : Blk w g t2 r.toArray) (hr : r.length = k) (h1 : ∀ u ∈ r, u.oneCell' = true) (hlen : R.length ≤ 1000) (hby : bytes ≤ 10000) (hbase : base ≤ w.heap.size)
  (h : ∀ (A' : Option Addr) (c' : Nat) (w' : World), OwnR e k base w' A' c' (R ++ [r]) → Below base w w' → w.grownBy w' (blkOf A) → (blkOf A' = blkOf A ∨ blkOf A' = some w.heap.size) → K (a.put o.dst (.slice A' (R ++ [r]).length c')) w') : o.wp Tryd.prog a w K Q := by
 obtain ⟨i0, hi0, hz0, hz1, hz2⟩ := info_parts hi
 have hbb : (R.length + 1) * bytes ≤ 140737488355328 := by
  have : (R.length + 1) * bytes ≤ 1001 * 10000 := Nat.mul_le_mul (by omega) hby
  omega
 obtain ⟨v', w', hrun, h2, h3, _, h5⟩ := run_append_own_at (P := Tryd.prog) w base t o.type e i0 z k bytes ht hi0 hz0 hz1 hz2 hzs hk _ _ _ hown.2 ⟨g, 0, none⟩ 1 c2 r (by rw [hr, Nat.one_mul])
  (by
   intro j u hu
   rw [addr_add, Nat.zero_add, hg.cell, List.getElem?_toArray]
   exact hu) h1 (by unfold maxLen; omega) hbb hbase
 rw [ownBlock_slice] at h3 h5
 have hv : ∃ A' c', v' = .slice A' (R ++ [r]).length c' := by
  rcases h2.2 with ⟨h, h0⟩ | ⟨g, cap, cur, h, _⟩
  ·exact ⟨none, 0, by rw [h, List.length_append, List.length_singleton, h0]⟩
  ·exact ⟨_, cap, by rw [h, List.length_append, List.length_singleton]⟩
 obtain ⟨A', c', rfl⟩ := hv
 have hB : Below base w w' := ⟨h3.os, h3.tape, h3.output, h3.size, fun k' hk' => h3.block k' (Nat.lt_of_lt_of_le hk' hbase) (by
  rcases hown.form with ⟨rfl, _, _⟩ | ⟨g', cur, rfl, hge, _⟩
  ·simp [blkOf]
  ·simp [blkOf]; omega)⟩
 unfold Oper.wp execOp
 simp only [ho, resolve, invoke, builtin, Sem.run_bind, Sem.run_pure, Result.andThen_ok, List.map_toArray, List.map_cons, List.map_nil, hs, hx, hrun]
 rw [ownBlock_slice] at h5
 refine h A' c' w' ⟨fun x hx => ?_, ?_⟩ hB h3 h5
 ·rcases List.mem_append.1 hx with h | h
  ·exact hown.1 x h
  ·rw [List.mem_singleton.1 h]; exact hr
 ·rw [List.length_append, List.length_singleton, List.flatten_append, List.flatten_singleton] at *
  exact h2
/-- Rows put behind nothing: a copy. -/
theorem op_app_copy {o : Oper} {a : Act} {w : World} {Q : Exit → Act → World → Prop} {K : Act → World → Prop} {t e : TypeId} (s x : Operand) (ho : o.op = .call { callee := .builtin .append, args := #[s, x], argTypes := #[t, t] })
  {z : Value} {k bytes : Nat} (ht : Tryd.prog.underlying t = some (.slice e)) (hi : (Tryd.prog.info? e).map (fun i => (i.zero, i.size, i.bytes)) = some (some z, k, bytes)) (hzs : z.cells.size = k) (hk : 0 < k)
  {c2 : Nat} {A2 : Option Addr} {R : List (List Value)} (hs : a.eval s = .slice none 0 0) (hx : a.eval x = .slice A2 R.length c2) (hR : RowsAt w A2 k R) (hn : 0 < R.length) (h1 : ∀ r ∈ R, ∀ u ∈ r, u.oneCell' = true) (hlen : R.length ≤ 1000) (hby : bytes ≤ 10000)
  (h : ∀ (A' : Option Addr) (c' : Nat) (w' : World), OwnR e k w.heap.size w' A' c' R → Below w.heap.size w w' → K (a.put o.dst (.slice A' R.length c')) w') : o.wp Tryd.prog a w K Q := by
 obtain ⟨i0, hi0, hz0, hz1, hz2⟩ := info_parts hi
 obtain ⟨b, off, rfl, hb, hc⟩ := hR.at_ hn
 have hk' : ∀ r ∈ R, r.length = k := fun r hr => by
  obtain ⟨i, hi⟩ := List.getElem?_of_mem hr
  exact (hc i r hi).1
 have hbb : (0 + R.length) * bytes ≤ 140737488355328 := by
  have : (0 + R.length) * bytes ≤ 1000 * 10000 := Nat.mul_le_mul (by omega) hby
  omega
 obtain ⟨v', w', hrun, h2, h3, _, h5⟩ := run_append_own_at (P := Tryd.prog) w w.heap.size t o.type e i0 z k bytes ht hi0 hz0 hz1 hz2 hzs hk _ _ _ (World.ownsRow_nil w w.heap.size e k) ⟨b, off, none⟩ R.length c2 R.flatten (flatten_len hk')
  (by
   intro j u hu
   have hj : j < R.length * k := by rw [← flatten_len hk']; exact (List.getElem?_eq_some_iff.1 hu).1
   have hjk : j = j / k * k + j % k := by rw [Nat.mul_comm]; exact (Nat.div_add_mod j k).symm
   have hq : j / k < R.length := Nat.div_lt_of_lt_mul (by rw [Nat.mul_comm]; exact hj)
   have hr := List.getElem?_eq_getElem hq
   have hmod : j % k < k := Nat.mod_lt _ hk
   rw [hjk, flatten_get hk' (j / k) _ hr (j % k) hmod] at hu
   have := (hc (j / k) _ hr).2 (j % k) u hu
   rw [addr_add, hjk]
   rw [← Nat.add_assoc]
   exact this) (fun u hu => by
   obtain ⟨r, hr, hur⟩ := List.mem_flatten.1 hu
   exact h1 r hr u hur) (by unfold maxLen; omega) hbb (Nat.le_refl _)
 have hv : ∃ A' c', v' = .slice A' R.length c' := by
  rcases h2.2 with ⟨h, h0⟩ | ⟨g, cap, cur, h, _⟩
  ·exact absurd h0 (by omega)
  ·exact ⟨_, cap, by rw [h, Nat.zero_add]⟩
 obtain ⟨A', c', rfl⟩ := hv
 have hB : Below w.heap.size w w' := ⟨h3.os, h3.tape, h3.output, h3.size, fun k' hk' => h3.block k' hk' (by simp [Value.ownBlock])⟩
 unfold Oper.wp execOp
 simp only [ho, resolve, invoke, builtin, Sem.run_bind, Sem.run_pure, Result.andThen_ok, List.map_toArray, List.map_cons, List.map_nil, hs, hx, hrun]
 refine h A' c' w' ⟨hk', ?_⟩ hB
 rw [Nat.zero_add, List.nil_append] at h2
 exact h2
end Go.Proofs.YtcmllcmcbamlbaaDoor
namespace Go.Proofs.YtcmllcmcbamlbaaDoor
open Go.RowKit
structure Seat where
 a : ByteArray
 k : ByteArray
 p : Int
 q : Int
def Seat.cells (s : Seat) : List Value := [.string s.a, .string s.k, .int .i64 s.p, .int .i64 s.q]
def seatRows (S : List Seat) : List (List Value) := S.map Seat.cells
/-- What every seat of a set's is: an address of 20 bytes, a key that is no longer than zzMost, a power from 1 to 1,000,000, no priority. -/
structure Seat.good (s : Seat) : Prop where
 a : s.a.size = 20
 k : s.k.size ≤ 2147483647
 p : 1 ≤ s.p ∧ s.p ≤ 1000000
 q : s.q = 0
def Good (S : List Seat) : Prop := ∀ s ∈ S, s.good
theorem Good.get {S : List Seat} (h : Good S) {i : Nat} {s : Seat} (hi : S[i]? = some s) : s.good := h s (List.mem_of_getElem? hi)
theorem seatRows_length (S : List Seat) : (seatRows S).length = S.length := by simp [seatRows]
theorem seatRows_get {S : List Seat} {i : Nat} {s : Seat} (h : S[i]? = some s) : (seatRows S)[i]? = some s.cells := by simp [seatRows, h]
theorem seat_one (s : Seat) : ∀ u ∈ s.cells, u.oneCell' = true := by
 intro u hu
 simp only [Seat.cells, List.mem_cons, List.not_mem_nil, or_false] at hu
 rcases hu with rfl | rfl | rfl | rfl <;> rfl
/-- A slice of seats that reads as a list. -/
def SeatsAt (w : World) (A : Option Addr) (S : List Seat) : Prop := RowsAt w A 4 (seatRows S)
theorem SeatsAt.after {w w' : World} {A : Option Addr} {S : List Seat} (h : SeatsAt w A S) (hb : Below w.heap.size w w') : SeatsAt w' A S := RowsAt.after h hb
theorem SeatsAt.at_ {w : World} {A : Option Addr} {S : List Seat} (h : SeatsAt w A S) (hn : 0 < S.length) :
  ∃ b o, A = some ⟨b, o, none⟩ ∧ b < w.heap.size ∧ ∀ i s, S[i]? = some s → ∀ j v, s.cells[j]? = some v → w.cell? ⟨b, o + i * 4 + j, none⟩ = some v := by
 obtain ⟨b, o, h1, h2, h3⟩ := RowsAt.at_ h (by rw [seatRows_length]; exact hn)
 exact ⟨b, o, h1, h2, fun i s hs => (h3 i _ (seatRows_get hs)).2⟩
/-- The power of all. -/
def total (S : List Seat) : Int := (S.map Seat.p).sum
/-- The leaves of a set. -/
def Seat.leaf (s : Seat) : List Int := withinL 1 (withinL 1 (bytesOf s.k)) ++ numL 2 s.p.toNat
def sLeaves (S : List Seat) : List (List Int) := S.map Seat.leaf
theorem leaf_len {s : Seat} (h : s.good) : s.leaf.length ≤ 3000000000 := by
 unfold Seat.leaf
 have h1 := h.k
 have h2 := h.p
 have e1 := withinL_len 1 (bytesOf s.k) (by rw [bytesOf_length]; omega)
 rw [bytesOf_length] at e1
 have e2 := withinL_len 1 (withinL 1 (bytesOf s.k)) (by omega)
 have e3 := numL_len 2 s.p.toNat (by omega)
 rw [List.length_append]
 omega
theorem leaf_bytes (s : Seat) : Bytes s.leaf := (withinL_bytes 1 _ (by decide) (withinL_bytes 1 _ (by decide) (bytesOf_bytes _))).append (numL_bytes 2 _ (by decide))
theorem sLeaves_small {S : List Seat} (h : Good S) : Small (sLeaves S) := fun x hx => by
 obtain ⟨s, hs, rfl⟩ := List.mem_map.1 hx
 have := leaf_len (h s hs)
 exact ⟨leaf_bytes s, by omega⟩
theorem sLeaves_succ {S : List Seat} {i : Nat} {s : Seat} (h : S[i]? = some s) : sLeaves (S.take (i + 1)) = sLeaves (S.take i) ++ [s.leaf] := by
 unfold sLeaves
 rw [List.take_add_one, h]
 simp
end Go.Proofs.YtcmllcmcbamlbaaDoor
namespace Go.Proofs.YtcmllcmcbamlbaaDoor
open Go.RowKit

theorem sLeaves_len (S : List Seat) (k : Nat) (h : k ≤ S.length) : (sLeaves (S.take k)).length = k := by
 unfold sLeaves
 rw [List.length_map, List.length_take]
 omega

set_option maxHeartbeats 4000000 in
set_option maxRecDepth 100000 in
theorem c_SeatSum (S : List Seat) (A0 : Option Addr) (c0 : Nat) (w : World) (hG : Good S) (hS : SeatsAt w A0 S) (h20 : S.length ≤ 20) :
  Calls Tryd.prog 17 #[.slice A0 S.length c0] w fun e w' => ∃ v, e = .returned v ∧ BsAt w.heap.size (rootN 20 (sLeaves S)) v w' ∧ Below w.heap.size w w' := by
 suffices h : ∀ w0, (SeatsAt w0 A0 S) → Below w0.heap.size w0 w → Calls Tryd.prog 17 #[.slice A0 S.length c0] w fun e w' => ∃ v, e = .returned v ∧ BsAt w0.heap.size (rootN 20 (sLeaves S)) v w' ∧ Below w0.heap.size w0 w' from h w hS (bz_refl w)
 clear hS
 intro w0 hS hB
 refine enter_abs Tryd.func17 rfl 28 rfl (by simp) ?_
 intro a hs hd hargs
 have s0 := hargs 0 _ rfl
 clear hargs
 refine wp_seq ?_
 refine wp_region_list ?_
 show wpList _ _ _ [_] _ _
 refine tail_op rfl (fun K hK => ?_)
 go_simp
 refine hK _ _ ?_
 clear hK K
 refine act_put (d := 2) _ hs hd (by decide) [(0, _)] ⟨s0, trivial⟩ rfl ?_
 clear hs hd s0
 intro a hs hd zl
 refine wp_seq ?_
 refine wp_region_list ?_
 show wpList _ _ _ [_] _ _
 refine tail_op rfl (fun K hK => ?_)
 go_simp
 refine hK _ _ (tP hs hd zl ?_)
 clear hK K hs hd zl
 intro a hs hd zl
 refine wp_seq ?_
 refine wp_seq ?_
 refine wp_region_list ?_
 show wpList _ _ _ [_, _, _] _ _
 refine tail_op rfl (fun K hK => ?_)
 have q0 := gL zl 2
 go_simp
 clear q0
 refine hK _ _ (tP hs hd zl ?_)
 clear hK K hs hd zl
 intro a hs hd zl
 refine tail_op rfl (fun K hK => ?_)
 have q6 := gL zl 0
 go_simp
 clear q6
 refine hK _ _ (tP hs hd zl ?_)
 clear hK K hs hd zl
 intro a hs hd zl
 refine tail_op rfl (fun K hK => ?_)
 go_simp
 refine hK _ _ (tP hs hd zl ?_)
 clear hK K hs hd zl
 intro a hs hd zl
 refine wp_block ?_
 obtain ⟨s8, s7, s6, s3, -, -, -⟩ := zl
 refine wp_loop (fun a w => ∃ (k : Nat) (vs : List Value) (A : Option Addr) (c : Nat), SzIs a 28 ∧ DfNil a ∧ LiveAll [(3, .slice A vs.length c), (6, .slice A0 S.length c0), (7, .int .i64 ((S.length : Nat) : Int)), (8, .int .i64 ((k : Nat) : Int))] a ∧ (k ≤ S.length) ∧ (Below w0.heap.size w0 w) ∧ (Leaves w0.heap.size w A c vs (sLeaves (S.take k))))
  (fun a _ => S.length - (intOf (a.tmps.getD 8 undef)).toNat) ⟨0, [], none, 0, hs, hd, ⟨s3, s6, s7, s8, trivial⟩, Nat.zero_le _, hB, Leaves.nil _ _⟩ ?_
 clear hs hd s3 s6 s7 s8
 rintro a w ⟨k, vs, A, c, hs, hd, ⟨s3, s6, s7, s8, -⟩, hk, hB, hL⟩
 have hm : (intOf (a.tmps.getD 8 undef)).toNat = k := by rw [s8]; simp [intOf]
 rw [hm]
 clear hm
 have HVL := Is.hid (hL.length.trans (sLeaves_len S k hk))
 by_cases hlt : k < S.length
 ·have e1 : decide (k < S.length) = true := decide_eq_true hlt
  have e2 : decide ((k : Int) < (S.length : Int)) = true := decide_eq_true (by omega)
  obtain ⟨s, hsk⟩ : ∃ s, S[k]? = some s := ⟨S[k], List.getElem?_eq_getElem hlt⟩
  have hgd := hG.get hsk
  have HLS := Is.hid (sLeaves_succ hsk)
  obtain ⟨b0, o0, hA0, hb0, hcells⟩ := (hS.after hB).at_ (by omega)
  have hck := hcells k s hsk
  subst hA0
  have hkS : k < S.length := hlt
  have ew : IntKind.i64.wrap ((k : Int) + 1) = ((k + 1 : Nat) : Int) := by rw [IntWalk.i64_in _ (by omega)]; omega
  have hg1 := hgd.k
  have hg2 := hgd.p
  have kc := fun (w : World) => Lib.run_convert_string_bytes (P := Tryd.prog) w 9 23 5 (s.k) Tryd.underlying9 Tryd.underlying23 Tryd.underlying5
  clear hcells hsk
  refine wp_seq ?_
  refine wp_region_list ?_
  show wpList _ _ _ [_] _ _
  refine tail_op rfl (fun K hK => ?_)
  have q7 := gd s7
  have q8 := gd s8
  go_simp
  clear q7 q8
  refine hK _ _ ?_
  clear hK K
  refine act_put (d := 9) _ hs hd (by decide) [(3, _), (6, _), (7, _), (8, _)] ⟨s3, s6, s7, s8, trivial⟩ rfl ?_
  clear hs hd s3 s6 s7 s8
  intro a hs hd zl
  refine wp_seq ?_
  refine wp_cond_true (vL zl 0) ?_
  refine wp_skip ?_
  refine wp_seq ?_
  refine wp_block ?_
  refine wp_seq ?_
  refine wp_region_list ?_
  show wpList _ _ _ [_, _, _, _] _ _
  refine tail_op rfl (fun K hK => ?_)
  have q6 := gL zl 2
  have q8 := gL zl 4
  go_simp
  clear q6 q8
  refine hK _ _ (tP hs hd zl ?_)
  clear hK K hs hd zl
  intro a hs hd zl
  refine tail_op rfl (fun K hK => ?_)
  have q10 := gL zl 0
  have s10 := vL zl 0
  refine op_load_cells 50 (.tmp 10) rfl b0 _ s10 s.cells _ hck rfl rfl (by kernel_rfl) ?_
  clear q10
  refine hK _ _ (tP hs hd zl ?_)
  clear hK K hs hd zl s10
  intro a hs hd zl
  refine tail_op rfl (fun K hK => ?_)
  go_simp
  refine hK _ _ (tP hs hd zl ?_)
  clear hK K hs hd zl
  intro a hs hd zl
  refine tail_op rfl (fun K hK => ?_)
  have q5 := gL zl 0
  have q11 := gL zl 1
  have s5 := vL zl 0
  have s11 := vL zl 1
  refine op_store_row 50 (.tmp 5) (.tmp 11) rfl w.heap.size s5 _ s11 50 _ (Blk.new w _ _) rfl (by kernel_rfl) (seat_one s) ?_
  clear q5 q11
  refine hK _ _ ?_
  clear hK K
  change wpList _ _ _ _ a _
  rw [setRow_alloc_at _ _ _ _ _ rfl]
  obtain ⟨g5, hE⟩ : ∃ B, Is w.heap.size B := is_self _
  generalize hw1 : World.alloc w _ = w1
  have hg5 : Blk w1 g5 50 s.cells.toArray := by rw [← hw1, ← hE.out]; exact Blk.new w _ _
  have hB1 : Below w.heap.size w w1 := by rw [← hw1]; exact bz_alloc (bz_refl w) _
  replace hB := bz_then hB hB1
  replace hL := hL.after hB1
  clear s5 s11
  obtain ⟨s5, s11, s10, s9, s3, s6, s7, s8, -⟩ := zl
  rw [hE.out] at s5
  clear hw1 hB1 hE
  clear hck
  clear s9 s10 s11
  have c1 : w1.cell? ⟨g5, 1, none⟩ = some (.string s.k) := by rw [hg5.cell]; rfl
  have c2 : w1.cell? ⟨g5, 2, none⟩ = some (.int .i64 s.p) := by rw [hg5.cell]; rfl
  obtain ⟨B5, hB5⟩ : ∃ B, Is w1.heap.size B := is_self _
  have hBu : ∀ u, Below w1.heap.size w1 u → B5 ≤ u.heap.size := fun u h => by rw [← hB5.out]; exact h.size
  have hAB : ∀ k, blkOf A = some k → k < B5 := fun k hk => by rw [← hB5.out]; exact (hL.own.blk_lt k hk).2
  clear hg5
  refine fl2 (F := [(3, _), (5, _), (6, _), (7, _), (8, _)]) [.eq 12 _, .eq 13 _, .eq 14 _, FItem.bs 15 0 (bytesOf s.k), FItem.bs 16 0 (withinL 1 (bytesOf s.k)), FItem.bs 17 0 (withinL 1 (withinL 1 (bytesOf s.k))), .eq 18 _, .eq 19 _, FItem.bs 20 0 (numL 2 s.p.toNat), FItem.ls 21 ([withinL 1 (withinL 1 (bytesOf s.k)), numL 2 s.p.toNat]), FItem.bs 22 B5 s.leaf, FItem.one 23 B5 (s.leaf)] 12 hs hd ⟨s3, s5, s6, s7, s8, trivial⟩
   ⟨(stp rfl fun a u hb hs hl hd K hK => by have s3 := gL hl 0; clear hd; go_simp; exact kE hK hs),
    (stp rfl fun a u hb hs hl hd K hK => by have s5 := gL hl 1; clear hd; go_simp; exact kE hK hs),
    (stp rfl fun a u hb hs hl hd K hK => by have s13 := gD hd 1; have c1 := cell_up hb c1; have c2 := cell_up hb c2; clear hd; go_simp; exact kE hK hs),
    (stp rfl fun a u hb hs hl hd K hK => by
     have s14 := gD hd 2
     have c1 := cell_up hb c1
     have c2 := cell_up hb c2
     clear hd
     go_simp
     exact hK _ _ (bz_bytes (bz_refl _) _ _) (bs_put hs (by decide) (conv_at _ _ _))),
    (stp rfl fun a u hb hs hl hd K hK => by
     have i15 := FItem.bs_holds.1 (dep_get0 hd 3 (by kernel_rfl))
     obtain ⟨v15, e15⟩ : ∃ v, Is (a.tmps.getD 15 undef) v := is_self _
     rw [e15.out] at i15
     have s15 := gd e15.out
     have c1 := cell_up hb c1
     have c2 := cell_up hb c2
     clear hd
     obtain ⟨x15, A15, k15, hx15, rfl, f15, n15, b15, -⟩ := i15
     go_simp
     refine (c_within 1 A15 k15 x15 _ (by decide) b15 (by rw [hx15.out, bytesOf_length]; omega)).mono ?_
     intro e w3 h
     rw [hx15.out] at h
     obtain ⟨v, rfl, hv, hb2⟩ := h.at0
     exact hK _ _ hb2 (bs_put hs (by decide) hv)),
    (stp rfl fun a u hb hs hl hd K hK => by
     have i16 := FItem.bs_holds.1 (dep_get0 hd 4 (by kernel_rfl))
     obtain ⟨v16, e16⟩ : ∃ v, Is (a.tmps.getD 16 undef) v := is_self _
     rw [e16.out] at i16
     have s16 := gd e16.out
     have c1 := cell_up hb c1
     have c2 := cell_up hb c2
     clear hd
     obtain ⟨x16, A16, k16, hx16, rfl, f16, n16, b16, -⟩ := i16
     go_simp
     refine (c_within 1 A16 k16 x16 _ (by decide) b16 (by rw [hx16.out]; have := withinL_len 1 (bytesOf s.k) (by rw [bytesOf_length]; omega); rw [bytesOf_length] at this; omega)).mono ?_
     intro e w3 h
     rw [hx16.out] at h
     obtain ⟨v, rfl, hv, hb2⟩ := h.at0
     exact hK _ _ hb2 (bs_put hs (by decide) hv)),
    (stp rfl fun a u hb hs hl hd K hK => by have s5 := gL hl 1; clear hd; go_simp; exact kE hK hs),
    (stp rfl fun a u hb hs hl hd K hK => by have s18 := gD hd 6; have c1 := cell_up hb c1; have c2 := cell_up hb c2; clear hd; go_simp; exact kE hK hs),
    (stp rfl fun a u hb hs hl hd K hK => by
     have s19 := gD hd 7
     have c1 := cell_up hb c1
     have c2 := cell_up hb c2
     clear hd
     go_simp
     refine (c_number 2 s.p _ (by decide) (by omega) (by omega)).mono ?_
     intro e w3 h
     obtain ⟨v, rfl, hv, hb2⟩ := h.at0
     exact hK _ _ hb2 (bs_put hs (by decide) hv)),
    (stp rfl fun a u hb hs hl hd K hK => by
     have i17 := FItem.bs_holds.1 (dep_get0 hd 5 (by kernel_rfl))
     obtain ⟨v17, e17⟩ : ∃ v, Is (a.tmps.getD 17 undef) v := is_self _
     rw [e17.out] at i17
     have s17 := gd e17.out
     have i20 := FItem.bs_holds.1 (dep_get0 hd 8 (by kernel_rfl))
     obtain ⟨v20, e20⟩ : ∃ v, Is (a.tmps.getD 20 undef) v := is_self _
     rw [e20.out] at i20
     have s20 := gd e20.out
     have c1 := cell_up hb c1
     have c2 := cell_up hb c2
     clear hd
     have j17 := i17
     obtain ⟨x17, A17, k17, -, rfl, -, -, -, -⟩ := j17
     have j20 := i20
     obtain ⟨x20, A20, k20, -, rfl, -, -, -, -⟩ := j20
     go_simp
     exact hK _ _ (bz_alloc (bz_refl _) _) (ls_put hs (by decide) (LsAt.new (vs := [.slice A17 x17.length k17, .slice A20 x20.length k20]) ⟨i17, i20, trivial⟩ (by simp)))),
    (stp rfl fun a u hb hs hl hd K hK => by
     have i21 := FItem.ls_holds.1 (dep_get0 hd 9 (by kernel_rfl))
     obtain ⟨v21, e21⟩ : ∃ v, Is (a.tmps.getD 21 undef) v := is_self _
     rw [e21.out] at i21
     have s21 := gd e21.out
     have c1 := cell_up hb c1
     have c2 := cell_up hb c2
     clear hd
     go_simp
     refine (i21.joined (by simp) (by rw [flat2]; have := leaf_len hgd; unfold Seat.leaf at this; omega)).mono ?_
     intro e w3 h
     rw [flat2] at h
     obtain ⟨v, rfl, hv, hb2⟩ := h.read.at_ (hBu _ hb)
     exact hK _ _ hb2 (bs_put hs (by decide) hv)),
    (stp rfl fun a u hb hs hl hd K hK => by
     have i22 := FItem.bs_holds.1 (dep_get0 hd 10 (by kernel_rfl))
     obtain ⟨v22, e22⟩ : ∃ v, Is (a.tmps.getD 22 undef) v := is_self _
     rw [e22.out] at i22
     have s22 := gd e22.out
     have c1 := cell_up hb c1
     have c2 := cell_up hb c2
     clear hd
     have j22 := i22
     obtain ⟨x22, A22, k22, -, rfl, -, -, -, -⟩ := j22
     go_simp
     exact hK _ _ (bz_alloc (bz_refl _) _) (one_put hs (by decide) (OneAt.new i22))),
    trivial⟩ ?_
  clear hs hd s3 s5 s6 s7 s8
  intro a w hb hs hd zl hh
  replace zl := lH hh 0 zl
  have i23 := FItem.one_holds.1 (hold_get hh 11)
  obtain ⟨v23, s23⟩ : ∃ v, a.tmps.getD 23 undef = v := ⟨_, rfl⟩
  rw [s23] at i23
  clear hh
  replace hL := hL.after hb
  replace c1 := cell_up hb c1
  replace c2 := cell_up hb c2
  replace hB := bz_then hB hb
  clear hb
  show wpList _ _ _ [_, _] _ _
  refine tail_op rfl (fun K hK => ?_)
  have q12 := gL zl 0
  have q23 := gd s23
  obtain ⟨g2, c2, u2, rfl, hg2, i22⟩ := i23
  have s12 := vL zl 0
  refine op_app_leaf (.tmp 12) (.tmp 23) rfl s12 s23 hL hg2 i22 hAB (by have := HVL.out; omega) hB.size ?_
  intro vs' A' c' w4 hL' hbel _
  clear q12 q23
  refine hK _ _ ?_
  clear hK K
  clear s12
  obtain ⟨s12, s3, -, s6, s7, s8, -⟩ := zl
  refine act_put (d := 24) _ hs hd (by decide) [(3, _), (6, _), (7, _), (8, _), (12, _), (23, _)] ⟨s3, s6, s7, s8, s12, s23, trivial⟩ rfl ?_
  clear hs hd s3 s6 s7 s8 s12 s23
  intro a hs hd zl
  replace hB := hB.trans hbel
  clear hbel hL hg2 i22
  have hL := hL'
  refine tail_op rfl (fun K hK => ?_)
  have q24 := gL zl 0
  go_simp
  clear q24
  refine hK _ _ ?_
  clear hK K
  obtain ⟨s24, s3, s6, s7, s8, s12, s23, -⟩ := zl
  refine act_put (d := 3) _ hs hd (by decide) [(6, _), (7, _), (8, _), (12, _), (23, _), (24, _)] ⟨s6, s7, s8, s12, s23, s24, trivial⟩ rfl ?_
  clear hs hd s3 s6 s7 s8 s12 s23 s24
  intro a hs hd zl
  refine wp_region_list ?_
  show wpList _ _ _ [_, _] _ _
  refine tail_op rfl (fun K hK => ?_)
  have q8 := gL zl 3
  go_simp
  clear q8
  refine hK _ _ (tP hs hd zl ?_)
  clear hK K hs hd zl
  intro a hs hd zl
  refine tail_op rfl (fun K hK => ?_)
  have q25 := gL zl 0
  go_simp
  clear q25
  refine hK _ _ ?_
  clear hK K
  obtain ⟨s25, s3, s6, s7, s8, -, -, -, -⟩ := zl
  refine act_put (d := 8) _ hs hd (by decide) [(3, _), (6, _), (7, _), (25, _)] ⟨s3, s6, s7, s25, trivial⟩ rfl ?_
  clear hs hd s3 s6 s7 s8 s25
  intro a hs hd zl
  obtain ⟨s8, s3, s6, s7, -, -⟩ := zl
  refine ⟨⟨k + 1, _, _, _, hs, hd, ⟨s3, s6, s7, s8, trivial⟩, hlt, hB, (by rw [HLS.out]; exact hL)⟩, ?_⟩
  rw [s8]
  simp [intOf]
  omega
 obtain rfl : k = S.length := by omega
 have e1 : decide (S.length < S.length) = false := decide_eq_false (by omega)
 rw [List.take_of_length_le (Nat.le_refl _)] at hL
 refine wp_seq ?_
 refine wp_region_list ?_
 show wpList _ _ _ [_] _ _
 refine tail_op rfl (fun K hK => ?_)
 have q7 := gd s7
 have q8 := gd s8
 go_simp
 clear q7 q8
 refine hK _ _ ?_
 clear hK K
 refine act_put (d := 9) _ hs hd (by decide) [(3, _), (6, _), (7, _), (8, _)] ⟨s3, s6, s7, s8, trivial⟩ rfl ?_
 clear hs hd s3 s6 s7 s8
 intro a hs hd zl
 refine wp_seq ?_
 refine wp_cond_false (vL zl 0) ?_
 refine wp_exit ?_
 repeat refine then_exit ?_
 refine inBlock_exit ?_
 have hLs := hL.ls0
 have hcp := hL.own.cap
 have hvl : vs.length = (sLeaves S).length := hL.length
 have hS20 : (sLeaves S).length ≤ 20 := by unfold sLeaves; rw [List.length_map]; exact h20
 obtain ⟨s9, s3, -, -, -, -⟩ := zl
 rw [hvl] at s3 hcp
 refine wp_seq ?_
 refine wp_region_list ?_
 show wpList _ _ _ [_, _, _] _ _
 refine tail_op rfl (fun K hK => ?_)
 have q3 := gd s3
 go_simp
 clear q3
 refine hK _ _ ?_
 clear hK K
 refine act_put (d := 26) _ hs hd (by decide) [(3, _), (9, _)] ⟨s3, s9, trivial⟩ rfl ?_
 clear hs hd s3 s9
 intro a hs hd zl
 refine tail_op rfl (fun K hK => ?_)
 have q26 := gL zl 0
 go_simp
 refine (c_specRoot 20 (sLeaves S) (sLeaves S).length A c _ rfl hS20 hS20 hcp hLs (sLeaves_small hG) (by decide)).mono ?_
 rintro e w3 ⟨v, rfl, hv, hb2⟩
 clear q26
 refine hK _ _ (tP hs hd zl ?_)
 clear hK K hs hd zl
 intro a hs hd zl
 replace hv := hv.less hB.size
 replace hB := bz_then hB hb2
 refine tail_op rfl (fun K hK => ?_)
 have q27 := gL zl 0
 go_simp
 clear q27
 refine hK _ _ (tP hs hd zl ?_)
 clear hK K hs hd zl
 intro a hs hd zl
 refine wp_ret ?_
 exact end_tmp rfl hd (vL zl 0) ⟨v, rfl, hv, hB⟩
end Go.Proofs.YtcmllcmcbamlbaaDoor
