/- The reference's sum of a header. (Printed by gen_hsum.py.) The package's sum of a header. (Printed by gen_hhash.py.) Contracts of the small functions on times and of 'below' (for the door seats: XTime without Add and later). The reference's times: which is ahead. (FnBack's seat alone.) Bytes as strings; bytes.Equal; what is well formed: the small functions. What is well formed: the package's ValidateBasic of a header. (Printed by gen_valid.py.) -/
import Derived.Test.YtcmllcmcbamlbaaDoorM9
import Derived.Test.YtcmllcmcbamlbaaDoorChecked
import Derived.Test.YtcmllcmcbamlbaaDoorM1
import Derived.IntWalk
import Derived.Laws.BytesArg
set_option linter.unusedVariables false
set_option linter.unusedSimpArgs false
namespace Go.Proofs.YtcmllcmcbamlbaaDoor
open Go.RowKit
theorem Hd.sums_length (H : Hd) (k : Nat) : (H.leaves5 ++ H.sums k).length = 5 + k := by simp [Hd.leaves5, Hd.sums]; omega
theorem Hd.leaves_length (H : Hd) : H.leaves.length = 14 := by simp [Hd.leaves, Hd.leaves5, Hd.sums]

set_option maxHeartbeats 4000000 in
set_option maxRecDepth 100000 in
theorem c_HeaderSum (H : Hd) (w : World) (hn : H.num) (hk : H.ok w) (hne : (((H.hh 2).l.length : Int) == 0) = false) :
  Calls Tryd.prog 8 #[.agg H.cells] w fun e w' => ∃ v, e = .returned v ∧ BsAt w.heap.size (rootN 20 H.leaves) v w' ∧ Below w.heap.size w w' := by
 suffices h : ∀ w0, (H.ok w0) → Below w0.heap.size w0 w → Calls Tryd.prog 8 #[.agg H.cells] w fun e w' => ∃ v, e = .returned v ∧ BsAt w0.heap.size (rootN 20 H.leaves) v w' ∧ Below w0.heap.size w0 w' from h w hk (bz_refl w)
 clear hk
 intro w0 hk hB
 refine enter_abs Tryd.func8 rfl 52 rfl (by simp) ?_
 intro a hs hd hargs
 have s0 := hargs 0 _ rfl
 clear hargs
 refine wp_seq ?_
 refine wp_region_list ?_
 show wpList _ _ _ [_, _] _ _
 refine tail_op rfl (fun K hK => ?_)
 have q0 := gd s0
 go_simp
 clear q0
 refine hK _ _ ?_
 clear hK K
 refine act_put (d := 1) _ hs hd (by decide) [(0, _)] ⟨s0, trivial⟩ rfl ?_
 clear hs hd s0
 intro a hs hd zl
 obtain ⟨g, hE⟩ : ∃ B, Is w.heap.size B := is_self _
 generalize hw1 : World.alloc w _ = w1
 have hg : Blk w1 g 40 H.cells := by rw [← hw1, ← hE.out]; exact Blk.new w _ _
 have hB1 : Below w.heap.size w w1 := by rw [← hw1]; exact bz_alloc (bz_refl w) _
 replace hB := bz_then hB hB1
 obtain ⟨s1, s0, -⟩ := zl
 rw [hE.out] at s1
 clear hw1 hB1 hE
 refine tail_op rfl (fun K hK => ?_)
 go_simp
 refine hK _ _ ?_
 clear hK K
 refine act_put (d := 2) _ hs hd (by decide) [(0, _), (1, _)] ⟨s0, s1, trivial⟩ rfl ?_
 clear hs hd s0 s1
 intro a hs hd zl
 refine wp_seq ?_
 refine wp_seq ?_
 have HNE := Is.hid hne
 clear hne
 have c11 : w1.cell? ⟨g, 11, none⟩ = some (.slice (H.hh 2).A (H.hh 2).l.length (H.hh 2).c) := by rw [hg.cell]; rfl
 refine fl2 [.eq 6 _, .eq 7 _, .eq 8 _, .eq 9 _] 4 hs hd zl
  ⟨(stp rfl fun a u hb hs hl hd K hK => by have s1 := gL hl 2; clear hd; go_simp; exact kE hK hs),
   (stp rfl fun a u hb hs hl hd K hK => by have s6 := gD hd 0; clear hd; go_simp; exact kE hK hs),
   (stp rfl fun a u hb hs hl hd K hK => by have s7 := gD hd 1; have c11 := cell_up hb c11; clear hd; go_simp; exact kE hK hs),
   (stp rfl fun a u hb hs hl hd K hK => by have s8 := gD hd 2; clear hd; go_simp; exact kE hK hs),
   trivial⟩ ?_
 clear hs hd zl
 intro a w hb hs hd zl hh
 replace zl := lH hh 3 zl
 clear hh
 replace hg := hg.after hb
 replace c11 := cell_up hb c11
 replace hB := bz_then hB hb
 clear hb
 show wpList _ _ _ [_] _ _
 refine tail_op rfl (fun K hK => ?_)
 have q9 := gL zl 0
 go_simp
 clear q9
 refine hK _ _ (tP hs hd zl ?_)
 clear hK K hs hd zl
 intro a hs hd zl
 clear c11
 have hne := HNE.out
 clear HNE
 have s10 := vL zl 0
 refine wp_cond_false (s10.trans (congrArg Value.bool hne)) ?_
 refine wp_skip ?_
 clear s10 hne
 refine wp_seq ?_
 have c0 : w.cell? ⟨g, 0, none⟩ = some (.int .i64 H.vb) := by rw [hg.cell]; rfl
 have c1 : w.cell? ⟨g, 1, none⟩ = some (.int .i64 H.va) := by rw [hg.cell]; rfl
 have c2 : w.cell? ⟨g, 2, none⟩ = some (.string H.ch) := by rw [hg.cell]; rfl
 have c3 : w.cell? ⟨g, 3, none⟩ = some (.int .i64 H.ht) := by rw [hg.cell]; rfl
 have n1 := hn.vb
 have n2 := hn.va
 have n3 := hn.ht
 have n4 := hn.sec
 have n5 := hn.ns
 have n6 := hn.bt
 have n7 := hn.ch
 have hk' := hk.after hB
 have kc := fun (w : World) => Lib.run_convert_string_bytes (P := Tryd.prog) w 9 23 5 (H.ch) Tryd.underlying9 Tryd.underlying23 Tryd.underlying5
 obtain ⟨-, -, -, -, s1, -⟩ := zl
 refine fl2 (F := [(1, _)]) [.eq 11 _, .eq 12 _, FItem.bs 13 0 (numL 1 H.vb.toNat), .eq 14 _, .eq 15 _, FItem.bs 16 0 (numL 2 H.va.toNat), FItem.ls 17 ([numL 1 H.vb.toNat, numL 2 H.va.toNat]), FItem.bs 18 0 (numL 1 H.vb.toNat ++ numL 2 H.va.toNat), .eq 19 _, .eq 20 _, FItem.bs 21 0 (bytesOf H.ch), FItem.bs 22 0 (someL 1 (bytesOf H.ch)), .eq 23 _, .eq 24 _, FItem.bs 25 0 (numL 1 H.ht.toNat), .eq 26 _, .eq 27 (.agg #[.int .i64 H.sec, .int .i64 H.ns]), FItem.bs 28 0 (numL 1 H.sec.toNat ++ numL 2 H.ns.toNat), .eq 29 _, .eq 30 (.agg #[H.bh.v, .int .i64 H.bt, H.bp.v]), FItem.bs 31 0 (bidL H.bh.l H.bt H.bp.l)] 21 hs hd ⟨s1, trivial⟩
  ⟨(stp rfl fun a u hb hs hl hd K hK => by have s1 := gL hl 0; clear hd; go_simp; exact kE hK hs),
   (stp rfl fun a u hb hs hl hd K hK => by have s11 := gD hd 0; have c0 := cell_up hb c0; have c1 := cell_up hb c1; have c2 := cell_up hb c2; have c3 := cell_up hb c3; clear hd; go_simp; exact kE hK hs),
   (stp rfl fun a u hb hs hl hd K hK => by
    have s12 := gD hd 1
    have c0 := cell_up hb c0
    have c1 := cell_up hb c1
    have c2 := cell_up hb c2
    have c3 := cell_up hb c3
    clear hd
    go_simp
    refine (c_number 1 H.vb _ (by decide) n1.1 n1.2).mono ?_
    intro e w3 h
    obtain ⟨v, rfl, hv, hb2⟩ := h.at0
    exact hK _ _ hb2 (bs_put hs (by decide) hv)),
   (stp rfl fun a u hb hs hl hd K hK => by have s1 := gL hl 0; clear hd; go_simp; exact kE hK hs),
   (stp rfl fun a u hb hs hl hd K hK => by have s14 := gD hd 3; have c0 := cell_up hb c0; have c1 := cell_up hb c1; have c2 := cell_up hb c2; have c3 := cell_up hb c3; clear hd; go_simp; exact kE hK hs),
   (stp rfl fun a u hb hs hl hd K hK => by
    have s15 := gD hd 4
    have c0 := cell_up hb c0
    have c1 := cell_up hb c1
    have c2 := cell_up hb c2
    have c3 := cell_up hb c3
    clear hd
    go_simp
    refine (c_number 2 H.va _ (by decide) n2.1 n2.2).mono ?_
    intro e w3 h
    obtain ⟨v, rfl, hv, hb2⟩ := h.at0
    exact hK _ _ hb2 (bs_put hs (by decide) hv)),
   (stp rfl fun a u hb hs hl hd K hK => by
    have i13 := FItem.bs_holds.1 (dep_get0 hd 2 (by kernel_rfl))
    obtain ⟨v13, e13⟩ : ∃ v, Is (a.tmps.getD 13 undef) v := is_self _
    rw [e13.out] at i13
    have s13 := gd e13.out
    have i16 := FItem.bs_holds.1 (dep_get0 hd 5 (by kernel_rfl))
    obtain ⟨v16, e16⟩ : ∃ v, Is (a.tmps.getD 16 undef) v := is_self _
    rw [e16.out] at i16
    have s16 := gd e16.out
    have c0 := cell_up hb c0
    have c1 := cell_up hb c1
    have c2 := cell_up hb c2
    have c3 := cell_up hb c3
    clear hd
    have j13 := i13
    obtain ⟨x13, A13, k13, -, rfl, -, -, -, -⟩ := j13
    have j16 := i16
    obtain ⟨x16, A16, k16, -, rfl, -, -, -, -⟩ := j16
    go_simp
    exact hK _ _ (bz_alloc (bz_refl _) _) (ls_put hs (by decide) (LsAt.new (vs := [.slice A13 x13.length k13, .slice A16 x16.length k16]) ⟨i13, i16, trivial⟩ (by simp)))),
   (stp rfl fun a u hb hs hl hd K hK => by
    have i17 := FItem.ls_holds.1 (dep_get0 hd 6 (by kernel_rfl))
    obtain ⟨v17, e17⟩ : ∃ v, Is (a.tmps.getD 17 undef) v := is_self _
    rw [e17.out] at i17
    have s17 := gd e17.out
    have c0 := cell_up hb c0
    have c1 := cell_up hb c1
    have c2 := cell_up hb c2
    have c3 := cell_up hb c3
    clear hd
    go_simp
    refine (i17.joined (by simp) (by rw [flat2, List.length_append]; have := numL_len 1 H.vb.toNat (by omega); have := numL_len 2 H.va.toNat (by omega); omega)).mono ?_
    intro e w3 h
    rw [flat2] at h
    obtain ⟨v, rfl, hv, hb2⟩ := h.at0
    exact hK _ _ hb2 (bs_put hs (by decide) hv)),
   (stp rfl fun a u hb hs hl hd K hK => by have s1 := gL hl 0; clear hd; go_simp; exact kE hK hs),
   (stp rfl fun a u hb hs hl hd K hK => by have s19 := gD hd 8; have c0 := cell_up hb c0; have c1 := cell_up hb c1; have c2 := cell_up hb c2; have c3 := cell_up hb c3; clear hd; go_simp; exact kE hK hs),
   (stp rfl fun a u hb hs hl hd K hK => by
    have s20 := gD hd 9
    have c0 := cell_up hb c0
    have c1 := cell_up hb c1
    have c2 := cell_up hb c2
    have c3 := cell_up hb c3
    clear hd
    go_simp
    exact hK _ _ (bz_bytes (bz_refl _) _ _) (bs_put hs (by decide) (conv_at _ _ _))),
   (stp rfl fun a u hb hs hl hd K hK => by
    have i21 := FItem.bs_holds.1 (dep_get0 hd 10 (by kernel_rfl))
    obtain ⟨v21, e21⟩ : ∃ v, Is (a.tmps.getD 21 undef) v := is_self _
    rw [e21.out] at i21
    have s21 := gd e21.out
    have c0 := cell_up hb c0
    have c1 := cell_up hb c1
    have c2 := cell_up hb c2
    have c3 := cell_up hb c3
    clear hd
    obtain ⟨x21, A21, k21, hx21, rfl, f21, n21, b21, -⟩ := i21
    go_simp
    refine (c_some 1 A21 k21 x21 _ (by decide) b21 (by rw [hx21.out, bytesOf_length]; omega)).mono ?_
    intro e w3 h
    rw [hx21.out] at h
    obtain ⟨v, rfl, hv, hb2⟩ := h.at0
    exact hK _ _ hb2 (bs_put hs (by decide) hv)),
   (stp rfl fun a u hb hs hl hd K hK => by have s1 := gL hl 0; clear hd; go_simp; exact kE hK hs),
   (stp rfl fun a u hb hs hl hd K hK => by have s23 := gD hd 12; have c0 := cell_up hb c0; have c1 := cell_up hb c1; have c2 := cell_up hb c2; have c3 := cell_up hb c3; clear hd; go_simp; exact kE hK hs),
   (stp rfl fun a u hb hs hl hd K hK => by
    have s24 := gD hd 13
    have c0 := cell_up hb c0
    have c1 := cell_up hb c1
    have c2 := cell_up hb c2
    have c3 := cell_up hb c3
    clear hd
    go_simp
    refine (c_number 1 H.ht _ (by decide) n3.1 n3.2).mono ?_
    intro e w3 h
    obtain ⟨v, rfl, hv, hb2⟩ := h.at0
    exact hK _ _ hb2 (bs_put hs (by decide) hv)),
   (stp rfl fun a u hb hs hl hd K hK => by have s1 := gL hl 0; clear hd; go_simp; exact kE hK hs),
   (stp rfl fun a u hb hs hl hd K hK => by
    have s26 := gD hd 15
    have c0 := cell_up hb c0
    have c1 := cell_up hb c1
    have c2 := cell_up hb c2
    have c3 := cell_up hb c3
    clear hd
    refine op_load_part 37 (.tmp 26) rfl g 4 (gu s26) _ _ #[.int .i64 H.sec, .int .i64 H.ns] _ (hg.after hb) (show (4 + 2 : Nat) ≤ 18 by decide) rfl rfl (by kernel_rfl) rfl ?_
    exact kE hK hs),
   (stp rfl fun a u hb hs hl hd K hK => by
    have s27 := gD hd 16
    have c0 := cell_up hb c0
    have c1 := cell_up hb c1
    have c2 := cell_up hb c2
    have c3 := cell_up hb c3
    clear hd
    go_simp
    refine (c_MomB H.sec H.ns _ (by omega) (by omega)).mono ?_
    intro e w3 h
    obtain ⟨v, rfl, hv, hb2⟩ := h.at0
    exact hK _ _ hb2 (bs_put hs (by decide) hv)),
   (stp rfl fun a u hb hs hl hd K hK => by have s1 := gL hl 0; clear hd; go_simp; exact kE hK hs),
   (stp rfl fun a u hb hs hl hd K hK => by
    have s29 := gD hd 18
    have c0 := cell_up hb c0
    have c1 := cell_up hb c1
    have c2 := cell_up hb c2
    have c3 := cell_up hb c3
    clear hd
    refine op_load_part 38 (.tmp 29) rfl g 6 (gu s29) _ _ #[H.bh.v, .int .i64 H.bt, H.bp.v] _ (hg.after hb) (show (6 + 3 : Nat) ≤ 18 by decide) rfl rfl (by kernel_rfl) rfl ?_
    exact kE hK hs),
   (stp rfl fun a u hb hs hl hd K hK => by
    have s30 := gD hd 19
    have c0 := cell_up hb c0
    have c1 := cell_up hb c1
    have c2 := cell_up hb c2
    have c3 := cell_up hb c3
    clear hd
    have hk2 := hk'.after hb
    have m1 := hk2.bh.len
    have m2 := hk2.bp.len
    unfold HSl.v at s30
    go_simp
    refine (c_BlkB H.bt H.bh.A H.bp.A H.bh.c H.bp.c H.bh.l H.bp.l _ (by omega) hk2.bh.bs (by omega) hk2.bp.bs (by omega)).mono ?_
    intro e w3 h
    obtain ⟨v, rfl, hv, hb2⟩ := h.at0
    exact hK _ _ hb2 (bs_put hs (by decide) hv)),
   trivial⟩ ?_
 clear hs hd s1
 intro a w hb hs hd zl hh
 have i18 := FItem.bs_holds.1 (hold_get hh 7)
 obtain ⟨v18, s18⟩ : ∃ v, a.tmps.getD 18 undef = v := ⟨_, rfl⟩
 rw [s18] at i18
 have i22 := FItem.bs_holds.1 (hold_get hh 11)
 obtain ⟨v22, s22⟩ : ∃ v, a.tmps.getD 22 undef = v := ⟨_, rfl⟩
 rw [s22] at i22
 have i25 := FItem.bs_holds.1 (hold_get hh 14)
 obtain ⟨v25, s25⟩ : ∃ v, a.tmps.getD 25 undef = v := ⟨_, rfl⟩
 rw [s25] at i25
 have i28 := FItem.bs_holds.1 (hold_get hh 17)
 obtain ⟨v28, s28⟩ : ∃ v, a.tmps.getD 28 undef = v := ⟨_, rfl⟩
 rw [s28] at i28
 have i31 := FItem.bs_holds.1 (hold_get hh 20)
 obtain ⟨v31, s31⟩ : ∃ v, a.tmps.getD 31 undef = v := ⟨_, rfl⟩
 rw [s31] at i31
 clear hh
 replace hg := hg.after hb
 replace c0 := cell_up hb c0
 replace c1 := cell_up hb c1
 replace c2 := cell_up hb c2
 replace c3 := cell_up hb c3
 replace hB := bz_then hB hb
 clear hb
 show wpList _ _ _ [_, _] _ _
 refine tail_op rfl (fun K hK => ?_)
 have q18 := gd s18
 have q22 := gd s22
 have q25 := gd s25
 have q28 := gd s28
 have q31 := gd s31
 have j18 := i18
 obtain ⟨x18, A18, k18, -, rfl, -, -, -, -⟩ := j18
 have j22 := i22
 obtain ⟨x22, A22, k22, -, rfl, -, -, -, -⟩ := j22
 have j25 := i25
 obtain ⟨x25, A25, k25, -, rfl, -, -, -, -⟩ := j25
 have j28 := i28
 obtain ⟨x28, A28, k28, -, rfl, -, -, -, -⟩ := j28
 have j31 := i31
 obtain ⟨x31, A31, k31, -, rfl, -, -, -, -⟩ := j31
 go_simp
 clear q18 q22 q25 q28 q31
 refine hK _ _ ?_
 clear hK K
 obtain ⟨s1, -⟩ := zl
 refine act_put (d := 32) _ hs hd (by decide) [(1, _), (18, _), (22, _), (25, _), (28, _), (31, _)] ⟨s1, s18, s22, s25, s28, s31, trivial⟩ rfl ?_
 clear hs hd s1 s18 s22 s25 s28 s31
 intro a hs hd zl
 obtain ⟨s32, s1, s18, s22, s25, s28, s31, -⟩ := zl
 have hL := Leaves.new (base := w0.heap.size) (w := w) (vs := [.slice A18 x18.length k18, .slice A22 x22.length k22, .slice A25 x25.length k25, .slice A28 x28.length k28, .slice A31 x31.length k31]) (ls := H.leaves5) ⟨i18, i22, i25, i28, i31, trivial⟩ hB.size (by simp)
 clear i18 i22 i25 i28 i31
 generalize hw1 : World.alloc w _ = w1
 rw [show (World.alloc w _) = w1 from hw1] at hL
 have hB1 : Below w.heap.size w w1 := by rw [← hw1]; exact bz_alloc (bz_refl w) _
 replace hB := bz_then hB hB1
 replace hg := hg.after hB1
 clear hw1 hB1
 revert hL s32
 generalize (some (⟨w.heap.size, 0, none⟩ : Addr)) = A5
 intro s32 hL
 refine tail_op rfl (fun K hK => ?_)
 have q32 := gd s32
 go_simp
 clear q32
 refine hK _ _ ?_
 clear hK K
 refine act_put (d := 3) _ hs hd (by decide) [(1, _), (18, _), (22, _), (25, _), (28, _), (31, _), (32, _)] ⟨s1, s18, s22, s25, s28, s31, s32, trivial⟩ rfl ?_
 clear hs hd s1 s18 s22 s25 s28 s31 s32
 intro a hs hd zl
 clear c0 c1 c2 c3 n1 n2 n3 n4 n5 n6 kc hk'
 refine wp_seq ?_
 refine wp_seq ?_
 refine wp_region_list ?_
 show wpList _ _ _ [_, _, _] _ _
 refine tail_op rfl (fun K hK => ?_)
 have q1 := gL zl 1
 go_simp
 clear q1
 refine hK _ _ (tP hs hd zl ?_)
 clear hK K hs hd zl
 intro a hs hd zl
 refine tail_op rfl (fun K hK => ?_)
 have q33 := gL zl 0
 have s33 := vL zl 0
 refine op_load_part 31 (.tmp 33) rfl g 9 s33 _ _ #[(H.hh 0).v, (H.hh 1).v, (H.hh 2).v, (H.hh 3).v, (H.hh 4).v, (H.hh 5).v, (H.hh 6).v, (H.hh 7).v] _ hg (show (9 + 8 : Nat) ≤ 18 by decide) rfl rfl (by kernel_rfl) rfl ?_
 clear q33
 refine hK _ _ (tP hs hd zl ?_)
 clear hK K hs hd zl s33
 intro a hs hd zl
 refine tail_op rfl (fun K hK => ?_)
 go_simp
 refine hK _ _ (tP hs hd zl ?_)
 clear hK K hs hd zl
 intro a hs hd zl
 refine wp_block ?_
 obtain ⟨s35, s34, -, s3, s1, -, -, -, -, -, -, -⟩ := zl
 refine wp_loop (fun a w => ∃ (k : Nat) (vs : List Value) (A : Option Addr) (c : Nat), SzIs a 52 ∧ DfNil a ∧ LiveAll [(1, .pointer (some ⟨g, 0, none⟩)), (3, .slice A vs.length c), (34, .agg #[(H.hh 0).v, (H.hh 1).v, (H.hh 2).v, (H.hh 3).v, (H.hh 4).v, (H.hh 5).v, (H.hh 6).v, (H.hh 7).v]), (35, .int .i64 ((k : Nat) : Int))] a ∧ (k ≤ 8) ∧ (Below w0.heap.size w0 w) ∧ (Blk w g 40 H.cells) ∧ (Leaves w0.heap.size w A c vs (H.leaves5 ++ H.sums k)))
  (fun a _ => 8 - (intOf (a.tmps.getD 35 undef)).toNat) ⟨0, _, _, _, hs, hd, ⟨s1, s3, s34, s35, trivial⟩, by decide, hB, hg, (by rw [show H.sums 0 = [] from rfl, List.append_nil]; exact hL)⟩ ?_
 clear hs hd s1 s3 s34 s35
 rintro a w ⟨k, vs, A, c, hs, hd, ⟨s1, s3, s34, s35, -⟩, hk8, hB, hg, hL⟩
 have hm : (intOf (a.tmps.getD 35 undef)).toNat = k := by rw [s35]; simp [intOf]
 rw [hm]
 clear hm
 have HVL := Is.hid (hL.length.trans (H.sums_length k))
 by_cases hlt : k < 8
 ·have e1 : decide (k < 8) = true := decide_eq_true hlt
  have e2 : decide ((k : Int) < 8) = true := decide_eq_true (by omega)
  have ew : IntKind.i64.wrap ((k : Int) + 1) = ((k + 1 : Nat) : Int) := by rw [IntWalk.i64_in _ (by omega)]; omega
  have hix : ∀ u : World, (Instr.index 31 (.agg #[(H.hh 0).v, (H.hh 1).v, (H.hh 2).v, (H.hh 3).v, (H.hh 4).v, (H.hh 5).v, (H.hh 6).v, (H.hh 7).v]) (.int .i64 ((k : Nat) : Int))).run Tryd.prog u = .ok ((H.hh k).v) u := by
   rcases (by omega : k = 0 ∨ k = 1 ∨ k = 2 ∨ k = 3 ∨ k = 4 ∨ k = 5 ∨ k = 6 ∨ k = 7) with rfl | rfl | rfl | rfl | rfl | rfl | rfl | rfl <;> exact fun _ => by kernel_rfl
  unfold HSl.v at hix s34
  have hkk := (hk.after hB).hh k hlt
  refine wp_seq ?_
  refine wp_region_list ?_
  show wpList _ _ _ [_] _ _
  refine tail_op rfl (fun K hK => ?_)
  have q35 := gd s35
  go_simp
  clear q35
  refine hK _ _ ?_
  clear hK K
  refine act_put (d := 36) _ hs hd (by decide) [(1, _), (3, _), (34, _), (35, _)] ⟨s1, s3, s34, s35, trivial⟩ rfl ?_
  clear hs hd s1 s3 s34 s35
  intro a hs hd zl
  refine wp_seq ?_
  refine wp_cond_true (vL zl 0) ?_
  refine wp_skip ?_
  refine wp_seq ?_
  refine wp_block ?_
  refine wp_seq ?_
  refine wp_region_list ?_
  show wpList _ _ _ [_, _] _ _
  refine tail_op rfl (fun K hK => ?_)
  have q34 := gL zl 3
  have q35 := gL zl 4
  go_simp
  clear q34 q35
  refine hK _ _ (tP hs hd zl ?_)
  clear hK K hs hd zl
  intro a hs hd zl
  refine tail_op rfl (fun K hK => ?_)
  have q37 := gL zl 0
  go_simp
  clear q37
  refine hK _ _ (tP hs hd zl ?_)
  clear hK K hs hd zl
  intro a hs hd zl
  refine wp_region_list ?_
  show wpList _ _ _ [_, _, _, _, _, _] _ _
  refine tail_op rfl (fun K hK => ?_)
  have q3 := gL zl 4
  go_simp
  clear q3
  refine hK _ _ (tP hs hd zl ?_)
  clear hK K hs hd zl
  intro a hs hd zl
  refine tail_op rfl (fun K hK => ?_)
  have q5 := gL zl 1
  go_simp
  clear q5
  refine hK _ _ (tP hs hd zl ?_)
  clear hK K hs hd zl
  intro a hs hd zl
  refine tail_op rfl (fun K hK => ?_)
  have q39 := gL zl 0
  go_simp
  refine (c_some 1 (H.hh k).A (H.hh k).c (H.hh k).l _ (by decide) hkk.bs (by have := hkk.len; omega)).mono ?_
  intro e w3 h
  have hAB := fun k hk => (hL.own.blk_lt k hk).2
  obtain ⟨v40, rfl, i40, hb2⟩ := h.read.at_ (Nat.le_refl _)
  clear q39
  refine hK _ _ (tP hs hd zl ?_)
  clear hK K hs hd zl
  intro a hs hd zl
  replace hB := bz_then hB hb2
  replace hg := hg.after hb2
  replace hL := hL.after hb2
  clear hb2 hkk
  refine tail_op rfl (fun K hK => ?_)
  have q40 := gL zl 0
  have j40 := i40
  obtain ⟨x40, A40, k40, -, rfl, -, -, -, -⟩ := j40
  go_simp
  clear q40
  refine hK _ _ (tP hs hd zl ?_)
  clear hK K hs hd zl
  intro a hs hd zl
  obtain ⟨g2, hE⟩ : ∃ B, Is w3.heap.size B := is_self _
  generalize hw1 : World.alloc w3 _ = w1
  have hg2 : Blk w1 g2 23 #[.slice A40 x40.length k40] := by rw [← hw1, ← hE.out]; exact Blk.new w3 _ _
  have hB1 : Below w3.heap.size w3 w1 := by rw [← hw1]; exact bz_alloc (bz_refl w3) _
  replace hB := bz_then hB hB1
  replace hg := hg.after hB1
  replace hL := hL.after hB1
  replace i40 := i40.after hB1
  obtain ⟨s41, s40, s39, s38, s5, -, -, s1, s3, s34, s35, -⟩ := zl
  rw [hE.out] at s41
  clear hw1 hB1 hE
  refine tail_op rfl (fun K hK => ?_)
  have q38 := gd s38
  have q41 := gd s41
  refine op_app_leaf (.tmp 38) (.tmp 41) rfl s38 s41 hL hg2 i40 hAB (by have := HVL.out; omega) hB.size ?_
  intro vs' A' c' w4 hL' hbel hgb
  clear q38 q41
  refine hK _ _ ?_
  clear hK K
  refine act_put (d := 42) _ hs hd (by decide) [(1, _), (3, _), (5, _), (34, _), (35, _), (38, _), (39, _), (40, _), (41, _)] ⟨s1, s3, s5, s34, s35, s38, s39, s40, s41, trivial⟩ rfl ?_
  clear hs hd s1 s3 s5 s34 s35 s38 s39 s40 s41
  intro a hs hd zl
  replace hg := gb_blk hgb hg (hL.own.ne_blk hg (by decide))
  replace hB := hB.trans hbel
  clear hbel hgb hL hg2 i40
  have hL := hL'
  refine tail_op rfl (fun K hK => ?_)
  have q42 := gL zl 0
  go_simp
  clear q42
  refine hK _ _ ?_
  clear hK K
  obtain ⟨s42, s1, s3, s5, s34, s35, s38, s39, s40, s41, -⟩ := zl
  refine act_put (d := 3) _ hs hd (by decide) [(1, _), (5, _), (34, _), (35, _), (38, _), (39, _), (40, _), (41, _), (42, _)] ⟨s1, s5, s34, s35, s38, s39, s40, s41, s42, trivial⟩ rfl ?_
  clear hs hd s1 s3 s5 s34 s35 s38 s39 s40 s41 s42
  intro a hs hd zl
  refine wp_region_list ?_
  show wpList _ _ _ [_, _] _ _
  refine tail_op rfl (fun K hK => ?_)
  have q35 := gL zl 4
  go_simp
  clear q35
  refine hK _ _ (tP hs hd zl ?_)
  clear hK K hs hd zl
  intro a hs hd zl
  refine tail_op rfl (fun K hK => ?_)
  have q43 := gL zl 0
  go_simp
  clear q43
  refine hK _ _ ?_
  clear hK K
  obtain ⟨s43, s3, s1, -, s34, s35, -, -, -, -, -, -⟩ := zl
  refine act_put (d := 35) _ hs hd (by decide) [(1, _), (3, _), (34, _), (43, _)] ⟨s1, s3, s34, s43, trivial⟩ rfl ?_
  clear hs hd s1 s3 s34 s35 s43
  intro a hs hd zl
  obtain ⟨s35, s1, s3, s34, -, -⟩ := zl
  refine ⟨⟨k + 1, _, _, _, hs, hd, ⟨s1, s3, s34, s35, trivial⟩, hlt, hB, hg, (by rw [H.sums_succ, ← List.append_assoc]; exact hL)⟩, ?_⟩
  rw [s35]
  simp [intOf]
  omega
 obtain rfl : k = 8 := by omega
 have e1 : decide (8 < 8) = false := decide_eq_false (by omega)
 refine wp_seq ?_
 refine wp_region_list ?_
 show wpList _ _ _ [_] _ _
 refine tail_op rfl (fun K hK => ?_)
 have q35 := gd s35
 go_simp
 clear q35
 refine hK _ _ ?_
 clear hK K
 refine act_put (d := 36) _ hs hd (by decide) [(1, _), (3, _), (34, _), (35, _)] ⟨s1, s3, s34, s35, trivial⟩ rfl ?_
 clear hs hd s1 s3 s34 s35
 intro a hs hd zl
 refine wp_seq ?_
 refine wp_cond_false (vL zl 0) ?_
 refine wp_exit ?_
 repeat refine then_exit ?_
 refine inBlock_exit ?_
 refine wp_seq ?_
 clear hk8 hlt e1
 have c17 : w.cell? ⟨g, 17, none⟩ = some (.string H.pr) := by rw [hg.cell]; rfl
 have np := hn.pr
 have kc := fun (w : World) => Lib.run_convert_string_bytes (P := Tryd.prog) w 9 23 5 (H.pr) Tryd.underlying9 Tryd.underlying23 Tryd.underlying5
 refine wp_region_list ?_
 show wpList _ _ _ [_, _, _, _, _, _, _, _, _] _ _
 refine tail_op rfl (fun K hK => ?_)
 have q3 := gL zl 2
 go_simp
 clear q3
 refine hK _ _ (tP hs hd zl ?_)
 clear hK K hs hd zl
 intro a hs hd zl
 refine tail_op rfl (fun K hK => ?_)
 have q1 := gL zl 2
 go_simp
 clear q1
 refine hK _ _ (tP hs hd zl ?_)
 clear hK K hs hd zl
 intro a hs hd zl
 refine tail_op rfl (fun K hK => ?_)
 have q45 := gL zl 0
 go_simp
 clear q45
 refine hK _ _ (tP hs hd zl ?_)
 clear hK K hs hd zl
 intro a hs hd zl
 refine tail_op rfl (fun K hK => ?_)
 have q46 := gL zl 0
 go_simp
 clear q46
 refine hK _ _ (tP hs hd zl ?_)
 clear hK K hs hd zl
 intro a hs hd zl
 have i47 := conv_at w 5 H.pr
 generalize hw1 : Lib.bytesWorld w _ _ = w1
 rw [hw1] at i47
 have hB1 : Below w.heap.size w w1 := by rw [← hw1]; exact bz_bytes (bz_refl w) _ _
 replace hB := bz_then hB hB1
 replace hL := hL.after hB1
 clear hw1 hB1 hg c17 kc
 refine tail_op rfl (fun K hK => ?_)
 have q47 := gL zl 0
 obtain ⟨x47, A47, k47, hx47, hv47, f47, n47, b47, -⟩ := i47
 injection hv47 with e1 e2 e3
 subst e1 e3
 rw [show H.pr.size = x47.length by omega] at q47
 go_simp
 refine (c_some 1 _ _ x47 _ (by decide) b47 (by rw [hx47.out, bytesOf_length]; omega)).mono ?_
 intro e w3 h
 rw [hx47.out] at h
 have hAB := fun k hk => (hL.own.blk_lt k hk).2
 obtain ⟨v48, rfl, i48, hb2⟩ := h.read.at_ (Nat.le_refl _)
 clear q47
 refine hK _ _ (tP hs hd zl ?_)
 clear hK K hs hd zl
 intro a hs hd zl
 replace hB := bz_then hB hb2
 replace hL := hL.after hb2
 clear hb2
 refine tail_op rfl (fun K hK => ?_)
 have q48 := gL zl 0
 have j48 := i48
 obtain ⟨x48, A48, k48, -, rfl, -, -, -, -⟩ := j48
 go_simp
 clear q48
 refine hK _ _ (tP hs hd zl ?_)
 clear hK K hs hd zl
 intro a hs hd zl
 obtain ⟨g2, hE⟩ : ∃ B, Is w3.heap.size B := is_self _
 generalize hw1 : World.alloc w3 _ = w1
 have hg2 : Blk w1 g2 23 #[.slice A48 x48.length k48] := by rw [← hw1, ← hE.out]; exact Blk.new w3 _ _
 have hB1 : Below w3.heap.size w3 w1 := by rw [← hw1]; exact bz_alloc (bz_refl w3) _
 replace hB := bz_then hB hB1
 replace hL := hL.after hB1
 replace i48 := i48.after hB1
 obtain ⟨s49, s48, s47, s46, s45, s44, s36, s1, s3, -, -, -⟩ := zl
 rw [hE.out] at s49
 clear hw1 hB1 hE
 refine tail_op rfl (fun K hK => ?_)
 have q44 := gd s44
 have q49 := gd s49
 refine op_app_leaf (.tmp 44) (.tmp 49) rfl s44 s49 hL hg2 i48 hAB (by have := HVL.out; omega) hB.size ?_
 intro vs' A' c' w4 hL' hbel _
 clear q44 q49
 refine hK _ _ ?_
 clear hK K
 refine act_put (d := 50) _ hs hd (by decide) [(1, _), (3, _), (36, _), (44, _), (45, _), (46, _), (47, _), (48, _), (49, _)] ⟨s1, s3, s36, s44, s45, s46, s47, s48, s49, trivial⟩ rfl ?_
 clear hs hd s1 s3 s36 s44 s45 s46 s47 s48 s49
 intro a hs hd zl
 replace hB := hB.trans hbel
 clear hbel hL hg2 i48
 have hL := hL'
 refine tail_op rfl (fun K hK => ?_)
 have q50 := gL zl 0
 have hLs := hL.ls0
 have hcp := hL.own.cap
 have hvl : vs'.length = H.leaves.length := hL.length
 have h14 := H.leaves_length
 rw [hvl] at q50 hcp
 go_simp
 refine (c_specRoot 20 H.leaves H.leaves.length A' c' _ rfl (by omega) (by omega) hcp hLs (Hd.small hn hk) (by decide)).mono ?_
 rintro e w3 ⟨v, rfl, hv, hb2⟩
 clear q50
 refine hK _ _ (tP hs hd zl ?_)
 clear hK K hs hd zl
 intro a hs hd zl
 replace hv := hv.less hB.size
 replace hB := bz_then hB hb2
 refine tail_op rfl (fun K hK => ?_)
 have q51 := gL zl 0
 go_simp
 clear q51
 refine hK _ _ (tP hs hd zl ?_)
 clear hK K hs hd zl
 intro a hs hd zl
 refine wp_ret ?_
 exact end_tmp rfl hd (vL zl 0) ⟨v, rfl, hv, hB⟩
end Go.Proofs.YtcmllcmcbamlbaaDoor
namespace Go.Proofs.YtcmllcmcbamlbaaDoor
open Go.RowKit
/-- A header's cells in the package; ps: the proposer's bytes. -/
def Hd.pcells (H : Hd) (ps : HSl) : Array Value :=
 #[.int .u64 H.vb, .int .u64 H.va, .string H.ch, .int .i64 H.ht, .int .i64 (H.sec + 62135596800), .int .i32 H.ns, H.bh.v, .int .u32 H.bt, H.bp.v, (H.hh 0).v, (H.hh 1).v, (H.hh 2).v, (H.hh 3).v, (H.hh 4).v, (H.hh 5).v, (H.hh 6).v, (H.hh 7).v, ps.v]
theorem LsV.ls0 {w : World} {vs : List Value} {ls : List (List Int)} (hv : LsV w vs ls) (hc : vs.length ≤ 1000) : Ls0 (w.alloc (.cells vs.toArray 23)) (some ⟨w.heap.size, 0, none⟩) ls := (Leaves.new (base := 0) hv (Nat.zero_le _) hc).ls0

set_option maxHeartbeats 4000000 in
set_option maxRecDepth 100000 in
theorem c_HHash (H : Hd) (ps : HSl) (g : Nat) (w : World) (hn : H.num) (hg : Blk w g 93 (H.pcells ps)) (hk : H.ok w) (hps : ps.ok w) (hpl : Is ps.l (bytesOf H.pr)) (hne : (((H.hh 2).l.length : Int) == 0) = false) (hKt : KTab w 0) (h0 : 0 < w.heap.size) :
  Calls Tryd.prog 41 #[.pointer (some ⟨g, 0, none⟩)] w fun e w' => ∃ v, e = .returned v ∧ BsAt w.heap.size (rootN 20 H.leaves) v w' ∧ Below w.heap.size w w' := by
 suffices h : ∀ w0, (Blk w0 g 93 (H.pcells ps)) → (H.ok w0) → (ps.ok w0) → (KTab w0 0) → (0 < w0.heap.size) → Below w0.heap.size w0 w → Calls Tryd.prog 41 #[.pointer (some ⟨g, 0, none⟩)] w fun e w' => ∃ v, e = .returned v ∧ BsAt w0.heap.size (rootN 20 H.leaves) v w' ∧ Below w0.heap.size w0 w' from h w hg hk hps hKt h0 (bz_refl w)
 clear hg hk hps hKt h0
 intro w0 hg hk hps hKt h0 hB
 refine enter_abs Tryd.func41 rfl 91 rfl (by simp) ?_
 intro a hs hd hargs
 have s0 := hargs 0 _ rfl
 clear hargs
 refine wp_seq ?_
 refine wp_region_list ?_
 show wpList _ _ _ [_] _ _
 refine tail_op rfl (fun K hK => ?_)
 go_simp
 refine hK _ _ ?_
 clear hK K
 refine act_put (d := 2) _ hs hd (by decide) [(0, _)] ⟨s0, trivial⟩ rfl ?_
 clear hs hd s0
 intro a hs hd zl
 refine wp_seq ?_
 refine wp_seq ?_
 have HNE := Is.hid hne
 have c11 : w.cell? ⟨g, 11, none⟩ = some (.slice (H.hh 2).A (H.hh 2).l.length (H.hh 2).c) := by rw [(hg.after hB).cell]; rfl
 refine fl2 [.eq 6 _, .eq 7 (.bool false), .eq 8 (.bool false), .eq 9 _, .eq 10 _, .eq 11 _, .eq 12 _, .eq 13 _, .eq 14 (.bool false)] 9 hs hd zl
  ⟨(stp rfl fun a u hb hs hl hd K hK => by have s0 := gL hl 1; clear hd; go_simp; exact kE hK hs),
   (stp rfl fun a u hb hs hl hd K hK => by have s6 := gD hd 0; clear hd; go_simp; exact kE hK hs),
   (stp rfl fun a u hb hs hl hd K hK => by have s7 := gD hd 1; clear hd; go_simp; exact kE hK hs),
   (fun a u hb hs hl hd K hK => by have s0 := gL hl 1; have g8 := vD hd 2; clear hd; refine step_yes rfl (j := 2) (d := 8) rfl rfl g8 ?_; go_simp; exact kE hK hs),
   (fun a u hb hs hl hd K hK => by have s9 := gD hd 3; have g8 := vD hd 2; clear hd; refine step_yes rfl (j := 2) (d := 8) rfl rfl g8 ?_; go_simp; exact kE hK hs),
   (fun a u hb hs hl hd K hK => by have s10 := gD hd 4; have g8 := vD hd 2; clear hd; refine step_yes rfl (j := 2) (d := 8) rfl rfl g8 ?_; go_simp; exact kE hK hs),
   (fun a u hb hs hl hd K hK => by have s11 := gD hd 5; have c11 := cell_up hb c11; have g8 := vD hd 2; clear hd; refine step_yes rfl (j := 2) (d := 8) rfl rfl g8 ?_; go_simp; exact kE hK hs),
   (fun a u hb hs hl hd K hK => by have s12 := gD hd 6; have g8 := vD hd 2; clear hd; refine step_yes rfl (j := 2) (d := 8) rfl rfl g8 ?_; go_simp; exact kE hK hs),
   (fun a u hb hs hl hd K hK => by have s13 := gD hd 7; have g8 := vD hd 2; clear hd; refine step_yes rfl (j := 2) (d := 8) rfl rfl g8 ?_; go_simp; exact kE hK hs),
   trivial⟩ ?_
 clear hs hd zl
 intro a w hb hs hd zl hh
 replace zl := lH hh 2 zl
 replace zl := lH hh 8 zl
 clear hh
 replace c11 := cell_up hb c11
 replace hB := bz_then hB hb
 clear hb
 show wpList _ _ _ [_] _ _
 refine tail_op rfl (fun K hK => ?_)
 have q8 := gL zl 1
 have q14 := gL zl 0
 go_simp
 clear q8 q14
 refine hK _ _ (tP hs hd zl ?_)
 clear hK K hs hd zl
 intro a hs hd zl
 clear c11 HNE
 clear hne
 refine wp_cond_false (vL zl 0) ?_
 refine wp_skip ?_
 refine wp_seq ?_
 have n1 := hn.vb
 have n2 := hn.va
 have n3 := hn.ht
 have n4 := hn.sec
 have n5 := hn.ns
 have n6 := hn.bt
 have n7 := hn.ch
 refine wp_region_list ?_
 show wpList _ _ _ [_, _, _, _, _, _] _ _
 refine tail_op rfl (fun K hK => ?_)
 have q0 := gL zl 4
 go_simp
 clear q0
 refine hK _ _ (tP hs hd zl ?_)
 clear hK K hs hd zl
 intro a hs hd zl
 refine tail_op rfl (fun K hK => ?_)
 have q16 := gL zl 0
 go_simp
 clear q16
 refine hK _ _ (tP hs hd zl ?_)
 clear hK K hs hd zl
 intro a hs hd zl
 refine tail_op rfl (fun K hK => ?_)
 have q17 := gL zl 0
 go_simp
 clear q17
 refine hK _ _ (tP hs hd zl ?_)
 clear hK K hs hd zl
 intro a hs hd zl
 refine tail_op rfl (fun K hK => ?_)
 have q18 := gL zl 0
 have s18 := vL zl 0
 refine op_load_part 84 (.tmp 18) rfl g 0 s18 _ _ #[.int .u64 H.vb, .int .u64 H.va] _ (hg.after hB) (show (0 + 2 : Nat) ≤ 18 by decide) rfl rfl (by kernel_rfl) rfl ?_
 clear q18
 refine hK _ _ (tP hs hd zl ?_)
 clear hK K hs hd zl s18
 intro a hs hd zl
 refine tail_op rfl (fun K hK => ?_)
 have q19 := gL zl 0
 go_simp
 refine (c_ConsM H.vb H.va _ n1 n2).mono ?_
 intro e w3 h
 obtain ⟨v3, rfl, i3, hb2⟩ := h.at0
 clear q19
 refine hK _ _ (tP hs hd zl ?_)
 clear hK K hs hd zl
 intro a hs hd zl
 replace hB := bz_then hB hb2
 clear hb2
 refine tail_op rfl (fun K hK => ?_)
 have q20 := gL zl 0
 go_simp
 clear q20
 refine hK _ _ (tP hs hd zl ?_)
 clear hK K hs hd zl
 intro a hs hd zl
 refine wp_seq ?_
 refine wp_region_list ?_
 show wpList _ _ _ [_, _, _, _, _, _] _ _
 refine tail_op rfl (fun K hK => ?_)
 have q0 := gL zl 10
 go_simp
 clear q0
 refine hK _ _ (tP hs hd zl ?_)
 clear hK K hs hd zl
 intro a hs hd zl
 refine tail_op rfl (fun K hK => ?_)
 have q21 := gL zl 0
 go_simp
 clear q21
 refine hK _ _ (tP hs hd zl ?_)
 clear hK K hs hd zl
 intro a hs hd zl
 refine tail_op rfl (fun K hK => ?_)
 have q22 := gL zl 0
 go_simp
 clear q22
 refine hK _ _ (tP hs hd zl ?_)
 clear hK K hs hd zl
 intro a hs hd zl
 refine tail_op rfl (fun K hK => ?_)
 have q23 := gL zl 0
 have s23 := vL zl 0
 refine op_load_part 86 (.tmp 23) rfl g 4 s23 _ _ #[.int .i64 (H.sec + 62135596800), .int .i32 H.ns] _ (hg.after hB) (show (4 + 2 : Nat) ≤ 18 by decide) rfl rfl (by kernel_rfl) rfl ?_
 clear q23
 refine hK _ _ (tP hs hd zl ?_)
 clear hK K hs hd zl s23
 intro a hs hd zl
 refine tail_op rfl (fun K hK => ?_)
 have q24 := gL zl 0
 go_simp
 refine (c_TimeM (H.sec + 62135596800) H.ns _ (by omega) (by omega)).mono ?_
 intro e w3 h
 obtain ⟨v4, rfl, i4, hb2⟩ := h.at0
 rw [show H.sec + 62135596800 - 62135596800 = H.sec by omega] at i4
 clear q24
 refine hK _ _ (tP hs hd zl ?_)
 clear hK K hs hd zl
 intro a hs hd zl
 replace hB := bz_then hB hb2
 replace i3 := i3.after hb2
 clear hb2
 refine tail_op rfl (fun K hK => ?_)
 have q25 := gL zl 0
 go_simp
 clear q25
 refine hK _ _ (tP hs hd zl ?_)
 clear hK K hs hd zl
 intro a hs hd zl
 refine wp_seq ?_
 refine wp_region_list ?_
 show wpList _ _ _ [_, _, _, _, _, _] _ _
 refine tail_op rfl (fun K hK => ?_)
 have q0 := gL zl 16
 go_simp
 clear q0
 refine hK _ _ (tP hs hd zl ?_)
 clear hK K hs hd zl
 intro a hs hd zl
 refine tail_op rfl (fun K hK => ?_)
 have q26 := gL zl 0
 go_simp
 clear q26
 refine hK _ _ (tP hs hd zl ?_)
 clear hK K hs hd zl
 intro a hs hd zl
 refine tail_op rfl (fun K hK => ?_)
 have q27 := gL zl 0
 go_simp
 clear q27
 refine hK _ _ (tP hs hd zl ?_)
 clear hK K hs hd zl
 intro a hs hd zl
 refine tail_op rfl (fun K hK => ?_)
 have q28 := gL zl 0
 have s28 := vL zl 0
 refine op_load_part 91 (.tmp 28) rfl g 6 s28 _ _ #[H.bh.v, .int .u32 H.bt, H.bp.v] _ (hg.after hB) (show (6 + 3 : Nat) ≤ 18 by decide) rfl rfl (by kernel_rfl) rfl ?_
 clear q28
 refine hK _ _ (tP hs hd zl ?_)
 clear hK K hs hd zl s28
 intro a hs hd zl
 refine tail_op rfl (fun K hK => ?_)
 have q29 := gL zl 0
 have hk2 := hk.after hB
 have m1 := hk2.bh.len
 have m2 := hk2.bp.len
 unfold HSl.v at q29
 go_simp
 refine (c_BidM H.bt H.bh.A H.bp.A H.bh.c H.bp.c H.bh.l H.bp.l _ (by omega) hk2.bh.bs (by omega) hk2.bp.bs (by omega)).mono ?_
 intro e w3 h
 obtain ⟨v5, rfl, i5, hb2⟩ := h.at0
 clear q29
 refine hK _ _ (tP hs hd zl ?_)
 clear hK K hs hd zl
 intro a hs hd zl
 replace hB := bz_then hB hb2
 replace i3 := i3.after hb2
 replace i4 := i4.after hb2
 clear hb2 hk2 m1 m2
 refine tail_op rfl (fun K hK => ?_)
 have q30 := gL zl 0
 go_simp
 clear q30
 refine hK _ _ (tP hs hd zl ?_)
 clear hK K hs hd zl
 intro a hs hd zl
 refine wp_seq ?_
 have c2 : w3.cell? ⟨g, 2, none⟩ = some (.string H.ch) := by rw [(hg.after hB).cell]; rfl
 have c3 : w3.cell? ⟨g, 3, none⟩ = some (.int .i64 H.ht) := by rw [(hg.after hB).cell]; rfl
 have c9 : w3.cell? ⟨g, 9, none⟩ = some (.slice (H.hh 0).A (H.hh 0).l.length (H.hh 0).c) := by rw [(hg.after hB).cell]; rfl
 have c10 : w3.cell? ⟨g, 10, none⟩ = some (.slice (H.hh 1).A (H.hh 1).l.length (H.hh 1).c) := by rw [(hg.after hB).cell]; rfl
 have c11 : w3.cell? ⟨g, 11, none⟩ = some (.slice (H.hh 2).A (H.hh 2).l.length (H.hh 2).c) := by rw [(hg.after hB).cell]; rfl
 have c12 : w3.cell? ⟨g, 12, none⟩ = some (.slice (H.hh 3).A (H.hh 3).l.length (H.hh 3).c) := by rw [(hg.after hB).cell]; rfl
 have c13 : w3.cell? ⟨g, 13, none⟩ = some (.slice (H.hh 4).A (H.hh 4).l.length (H.hh 4).c) := by rw [(hg.after hB).cell]; rfl
 have c14 : w3.cell? ⟨g, 14, none⟩ = some (.slice (H.hh 5).A (H.hh 5).l.length (H.hh 5).c) := by rw [(hg.after hB).cell]; rfl
 have c15 : w3.cell? ⟨g, 15, none⟩ = some (.slice (H.hh 6).A (H.hh 6).l.length (H.hh 6).c) := by rw [(hg.after hB).cell]; rfl
 have c16 : w3.cell? ⟨g, 16, none⟩ = some (.slice (H.hh 7).A (H.hh 7).l.length (H.hh 7).c) := by rw [(hg.after hB).cell]; rfl
 have c17 : w3.cell? ⟨g, 17, none⟩ = some (.slice (ps).A (ps).l.length (ps).c) := by rw [(hg.after hB).cell]; rfl
 have hk3 := hk.after hB
 have hp3 := hps.after hB
 obtain ⟨s5, -, -, -, -, -, s4, -, -, -, -, -, s3, -, -, -, -, -, -, -, -, -, s0, -⟩ := zl
 refine fl2 (F := [(0, _), (3, _), (4, _), (5, _)]) [FItem.eq 31 _, FItem.eq 32 _, FItem.eq 33 _, FItem.eq 34 _, FItem.eq 35 _, FItem.bs 36 0 (someL 1 (bytesOf H.ch)), FItem.eq 37 _, FItem.eq 38 _, FItem.eq 39 _, FItem.eq 40 _, FItem.bs 41 0 (numL 1 H.ht.toNat), FItem.eq 42 _, FItem.eq 43 _, FItem.eq 44 _, FItem.eq 45 _, FItem.eq 46 _, FItem.eq 47 _, FItem.bs 48 0 (someL 1 (H.hh 0).l), FItem.eq 49 _, FItem.eq 50 _, FItem.eq 51 _, FItem.eq 52 _, FItem.bs 53 0 (someL 1 (H.hh 1).l), FItem.eq 54 _, FItem.eq 55 _, FItem.eq 56 _, FItem.eq 57 _, FItem.bs 58 0 (someL 1 (H.hh 2).l), FItem.eq 59 _, FItem.eq 60 _, FItem.eq 61 _, FItem.eq 62 _, FItem.bs 63 0 (someL 1 (H.hh 3).l), FItem.eq 64 _, FItem.eq 65 _, FItem.eq 66 _, FItem.eq 67 _, FItem.bs 68 0 (someL 1 (H.hh 4).l), FItem.eq 69 _, FItem.eq 70 _, FItem.eq 71 _, FItem.eq 72 _, FItem.bs 73 0 (someL 1 (H.hh 5).l), FItem.eq 74 _, FItem.eq 75 _, FItem.eq 76 _, FItem.eq 77 _, FItem.bs 78 0 (someL 1 (H.hh 6).l), FItem.eq 79 _, FItem.eq 80 _, FItem.eq 81 _, FItem.eq 82 _, FItem.bs 83 0 (someL 1 (H.hh 7).l), FItem.eq 84 _, FItem.eq 85 _, FItem.eq 86 _, FItem.eq 87 _, FItem.bs 88 0 (someL 1 (ps).l)] 58 hs hd ⟨s0, s3, s4, s5, trivial⟩
  ⟨(stp rfl fun a u hb hs hl hd K hK => by have s3 := gL hl 1; clear hd; go_simp; exact kE hK hs),
   (stp rfl fun a u hb hs hl hd K hK => by have s0 := gL hl 0; clear hd; go_simp; exact kE hK hs),
   (stp rfl fun a u hb hs hl hd K hK => by have s32 := gD hd 1; clear hd; go_simp; exact kE hK hs),
   (stp rfl fun a u hb hs hl hd K hK => by have s33 := gD hd 2; clear hd; go_simp; exact kE hK hs),
   (stp rfl fun a u hb hs hl hd K hK => by have s34 := gD hd 3; have c2 := cell_up hb c2; have c3 := cell_up hb c3; have c9 := cell_up hb c9; have c10 := cell_up hb c10; have c11 := cell_up hb c11; have c12 := cell_up hb c12; have c13 := cell_up hb c13; have c14 := cell_up hb c14; have c15 := cell_up hb c15; have c16 := cell_up hb c16; have c17 := cell_up hb c17; clear hd; go_simp; exact kE hK hs),
   (stp rfl fun a u hb hs hl hd K hK => by
    have s35 := gD hd 4
    have c2 := cell_up hb c2
    have c3 := cell_up hb c3
    have c9 := cell_up hb c9
    have c10 := cell_up hb c10
    have c11 := cell_up hb c11
    have c12 := cell_up hb c12
    have c13 := cell_up hb c13
    have c14 := cell_up hb c14
    have c15 := cell_up hb c15
    have c16 := cell_up hb c16
    have c17 := cell_up hb c17
    clear hd
    go_simp
    refine (c_cdcString H.ch _ (by omega)).mono ?_
    intro e w5 h
    obtain ⟨v, rfl, hv, hb2⟩ := h.at0
    exact hK _ _ hb2 (bs_put hs (by decide) hv)),
   (stp rfl fun a u hb hs hl hd K hK => by have s0 := gL hl 0; clear hd; go_simp; exact kE hK hs),
   (stp rfl fun a u hb hs hl hd K hK => by have s37 := gD hd 6; clear hd; go_simp; exact kE hK hs),
   (stp rfl fun a u hb hs hl hd K hK => by have s38 := gD hd 7; clear hd; go_simp; exact kE hK hs),
   (stp rfl fun a u hb hs hl hd K hK => by have s39 := gD hd 8; have c2 := cell_up hb c2; have c3 := cell_up hb c3; have c9 := cell_up hb c9; have c10 := cell_up hb c10; have c11 := cell_up hb c11; have c12 := cell_up hb c12; have c13 := cell_up hb c13; have c14 := cell_up hb c14; have c15 := cell_up hb c15; have c16 := cell_up hb c16; have c17 := cell_up hb c17; clear hd; go_simp; exact kE hK hs),
   (stp rfl fun a u hb hs hl hd K hK => by
    have s40 := gD hd 9
    have c2 := cell_up hb c2
    have c3 := cell_up hb c3
    have c9 := cell_up hb c9
    have c10 := cell_up hb c10
    have c11 := cell_up hb c11
    have c12 := cell_up hb c12
    have c13 := cell_up hb c13
    have c14 := cell_up hb c14
    have c15 := cell_up hb c15
    have c16 := cell_up hb c16
    have c17 := cell_up hb c17
    clear hd
    go_simp
    refine (c_cdcInt64 H.ht _ n3.1 n3.2).mono ?_
    intro e w5 h
    obtain ⟨v, rfl, hv, hb2⟩ := h.at0
    exact hK _ _ hb2 (bs_put hs (by decide) hv)),
   (stp rfl fun a u hb hs hl hd K hK => by have s4 := gL hl 2; clear hd; go_simp; exact kE hK hs),
   (stp rfl fun a u hb hs hl hd K hK => by have s5 := gL hl 3; clear hd; go_simp; exact kE hK hs),
   (stp rfl fun a u hb hs hl hd K hK => by have s0 := gL hl 0; clear hd; go_simp; exact kE hK hs),
   (stp rfl fun a u hb hs hl hd K hK => by have s44 := gD hd 13; clear hd; go_simp; exact kE hK hs),
   (stp rfl fun a u hb hs hl hd K hK => by have s45 := gD hd 14; clear hd; go_simp; exact kE hK hs),
   (stp rfl fun a u hb hs hl hd K hK => by have s46 := gD hd 15; have c2 := cell_up hb c2; have c3 := cell_up hb c3; have c9 := cell_up hb c9; have c10 := cell_up hb c10; have c11 := cell_up hb c11; have c12 := cell_up hb c12; have c13 := cell_up hb c13; have c14 := cell_up hb c14; have c15 := cell_up hb c15; have c16 := cell_up hb c16; have c17 := cell_up hb c17; clear hd; go_simp; exact kE hK hs),
   (stp rfl fun a u hb hs hl hd K hK => by
    have s47 := gD hd 16
    have c2 := cell_up hb c2
    have c3 := cell_up hb c3
    have c9 := cell_up hb c9
    have c10 := cell_up hb c10
    have c11 := cell_up hb c11
    have c12 := cell_up hb c12
    have c13 := cell_up hb c13
    have c14 := cell_up hb c14
    have c15 := cell_up hb c15
    have c16 := cell_up hb c16
    have c17 := cell_up hb c17
    clear hd
    have hk2 := (hk3.hh 0 (by decide)).after hb
    go_simp
    refine (c_cdcBytes (H.hh 0).A (H.hh 0).c (H.hh 0).l _ hk2.bs (by have := hk2.len; omega)).mono ?_
    intro e w5 h
    obtain ⟨v, rfl, hv, hb2⟩ := h.at0
    exact hK _ _ hb2 (bs_put hs (by decide) hv)),
   (stp rfl fun a u hb hs hl hd K hK => by have s0 := gL hl 0; clear hd; go_simp; exact kE hK hs),
   (stp rfl fun a u hb hs hl hd K hK => by have s49 := gD hd 18; clear hd; go_simp; exact kE hK hs),
   (stp rfl fun a u hb hs hl hd K hK => by have s50 := gD hd 19; clear hd; go_simp; exact kE hK hs),
   (stp rfl fun a u hb hs hl hd K hK => by have s51 := gD hd 20; have c2 := cell_up hb c2; have c3 := cell_up hb c3; have c9 := cell_up hb c9; have c10 := cell_up hb c10; have c11 := cell_up hb c11; have c12 := cell_up hb c12; have c13 := cell_up hb c13; have c14 := cell_up hb c14; have c15 := cell_up hb c15; have c16 := cell_up hb c16; have c17 := cell_up hb c17; clear hd; go_simp; exact kE hK hs),
   (stp rfl fun a u hb hs hl hd K hK => by
    have s52 := gD hd 21
    have c2 := cell_up hb c2
    have c3 := cell_up hb c3
    have c9 := cell_up hb c9
    have c10 := cell_up hb c10
    have c11 := cell_up hb c11
    have c12 := cell_up hb c12
    have c13 := cell_up hb c13
    have c14 := cell_up hb c14
    have c15 := cell_up hb c15
    have c16 := cell_up hb c16
    have c17 := cell_up hb c17
    clear hd
    have hk2 := (hk3.hh 1 (by decide)).after hb
    go_simp
    refine (c_cdcBytes (H.hh 1).A (H.hh 1).c (H.hh 1).l _ hk2.bs (by have := hk2.len; omega)).mono ?_
    intro e w5 h
    obtain ⟨v, rfl, hv, hb2⟩ := h.at0
    exact hK _ _ hb2 (bs_put hs (by decide) hv)),
   (stp rfl fun a u hb hs hl hd K hK => by have s0 := gL hl 0; clear hd; go_simp; exact kE hK hs),
   (stp rfl fun a u hb hs hl hd K hK => by have s54 := gD hd 23; clear hd; go_simp; exact kE hK hs),
   (stp rfl fun a u hb hs hl hd K hK => by have s55 := gD hd 24; clear hd; go_simp; exact kE hK hs),
   (stp rfl fun a u hb hs hl hd K hK => by have s56 := gD hd 25; have c2 := cell_up hb c2; have c3 := cell_up hb c3; have c9 := cell_up hb c9; have c10 := cell_up hb c10; have c11 := cell_up hb c11; have c12 := cell_up hb c12; have c13 := cell_up hb c13; have c14 := cell_up hb c14; have c15 := cell_up hb c15; have c16 := cell_up hb c16; have c17 := cell_up hb c17; clear hd; go_simp; exact kE hK hs),
   (stp rfl fun a u hb hs hl hd K hK => by
    have s57 := gD hd 26
    have c2 := cell_up hb c2
    have c3 := cell_up hb c3
    have c9 := cell_up hb c9
    have c10 := cell_up hb c10
    have c11 := cell_up hb c11
    have c12 := cell_up hb c12
    have c13 := cell_up hb c13
    have c14 := cell_up hb c14
    have c15 := cell_up hb c15
    have c16 := cell_up hb c16
    have c17 := cell_up hb c17
    clear hd
    have hk2 := (hk3.hh 2 (by decide)).after hb
    go_simp
    refine (c_cdcBytes (H.hh 2).A (H.hh 2).c (H.hh 2).l _ hk2.bs (by have := hk2.len; omega)).mono ?_
    intro e w5 h
    obtain ⟨v, rfl, hv, hb2⟩ := h.at0
    exact hK _ _ hb2 (bs_put hs (by decide) hv)),
   (stp rfl fun a u hb hs hl hd K hK => by have s0 := gL hl 0; clear hd; go_simp; exact kE hK hs),
   (stp rfl fun a u hb hs hl hd K hK => by have s59 := gD hd 28; clear hd; go_simp; exact kE hK hs),
   (stp rfl fun a u hb hs hl hd K hK => by have s60 := gD hd 29; clear hd; go_simp; exact kE hK hs),
   (stp rfl fun a u hb hs hl hd K hK => by have s61 := gD hd 30; have c2 := cell_up hb c2; have c3 := cell_up hb c3; have c9 := cell_up hb c9; have c10 := cell_up hb c10; have c11 := cell_up hb c11; have c12 := cell_up hb c12; have c13 := cell_up hb c13; have c14 := cell_up hb c14; have c15 := cell_up hb c15; have c16 := cell_up hb c16; have c17 := cell_up hb c17; clear hd; go_simp; exact kE hK hs),
   (stp rfl fun a u hb hs hl hd K hK => by
    have s62 := gD hd 31
    have c2 := cell_up hb c2
    have c3 := cell_up hb c3
    have c9 := cell_up hb c9
    have c10 := cell_up hb c10
    have c11 := cell_up hb c11
    have c12 := cell_up hb c12
    have c13 := cell_up hb c13
    have c14 := cell_up hb c14
    have c15 := cell_up hb c15
    have c16 := cell_up hb c16
    have c17 := cell_up hb c17
    clear hd
    have hk2 := (hk3.hh 3 (by decide)).after hb
    go_simp
    refine (c_cdcBytes (H.hh 3).A (H.hh 3).c (H.hh 3).l _ hk2.bs (by have := hk2.len; omega)).mono ?_
    intro e w5 h
    obtain ⟨v, rfl, hv, hb2⟩ := h.at0
    exact hK _ _ hb2 (bs_put hs (by decide) hv)),
   (stp rfl fun a u hb hs hl hd K hK => by have s0 := gL hl 0; clear hd; go_simp; exact kE hK hs),
   (stp rfl fun a u hb hs hl hd K hK => by have s64 := gD hd 33; clear hd; go_simp; exact kE hK hs),
   (stp rfl fun a u hb hs hl hd K hK => by have s65 := gD hd 34; clear hd; go_simp; exact kE hK hs),
   (stp rfl fun a u hb hs hl hd K hK => by have s66 := gD hd 35; have c2 := cell_up hb c2; have c3 := cell_up hb c3; have c9 := cell_up hb c9; have c10 := cell_up hb c10; have c11 := cell_up hb c11; have c12 := cell_up hb c12; have c13 := cell_up hb c13; have c14 := cell_up hb c14; have c15 := cell_up hb c15; have c16 := cell_up hb c16; have c17 := cell_up hb c17; clear hd; go_simp; exact kE hK hs),
   (stp rfl fun a u hb hs hl hd K hK => by
    have s67 := gD hd 36
    have c2 := cell_up hb c2
    have c3 := cell_up hb c3
    have c9 := cell_up hb c9
    have c10 := cell_up hb c10
    have c11 := cell_up hb c11
    have c12 := cell_up hb c12
    have c13 := cell_up hb c13
    have c14 := cell_up hb c14
    have c15 := cell_up hb c15
    have c16 := cell_up hb c16
    have c17 := cell_up hb c17
    clear hd
    have hk2 := (hk3.hh 4 (by decide)).after hb
    go_simp
    refine (c_cdcBytes (H.hh 4).A (H.hh 4).c (H.hh 4).l _ hk2.bs (by have := hk2.len; omega)).mono ?_
    intro e w5 h
    obtain ⟨v, rfl, hv, hb2⟩ := h.at0
    exact hK _ _ hb2 (bs_put hs (by decide) hv)),
   (stp rfl fun a u hb hs hl hd K hK => by have s0 := gL hl 0; clear hd; go_simp; exact kE hK hs),
   (stp rfl fun a u hb hs hl hd K hK => by have s69 := gD hd 38; clear hd; go_simp; exact kE hK hs),
   (stp rfl fun a u hb hs hl hd K hK => by have s70 := gD hd 39; clear hd; go_simp; exact kE hK hs),
   (stp rfl fun a u hb hs hl hd K hK => by have s71 := gD hd 40; have c2 := cell_up hb c2; have c3 := cell_up hb c3; have c9 := cell_up hb c9; have c10 := cell_up hb c10; have c11 := cell_up hb c11; have c12 := cell_up hb c12; have c13 := cell_up hb c13; have c14 := cell_up hb c14; have c15 := cell_up hb c15; have c16 := cell_up hb c16; have c17 := cell_up hb c17; clear hd; go_simp; exact kE hK hs),
   (stp rfl fun a u hb hs hl hd K hK => by
    have s72 := gD hd 41
    have c2 := cell_up hb c2
    have c3 := cell_up hb c3
    have c9 := cell_up hb c9
    have c10 := cell_up hb c10
    have c11 := cell_up hb c11
    have c12 := cell_up hb c12
    have c13 := cell_up hb c13
    have c14 := cell_up hb c14
    have c15 := cell_up hb c15
    have c16 := cell_up hb c16
    have c17 := cell_up hb c17
    clear hd
    have hk2 := (hk3.hh 5 (by decide)).after hb
    go_simp
    refine (c_cdcBytes (H.hh 5).A (H.hh 5).c (H.hh 5).l _ hk2.bs (by have := hk2.len; omega)).mono ?_
    intro e w5 h
    obtain ⟨v, rfl, hv, hb2⟩ := h.at0
    exact hK _ _ hb2 (bs_put hs (by decide) hv)),
   (stp rfl fun a u hb hs hl hd K hK => by have s0 := gL hl 0; clear hd; go_simp; exact kE hK hs),
   (stp rfl fun a u hb hs hl hd K hK => by have s74 := gD hd 43; clear hd; go_simp; exact kE hK hs),
   (stp rfl fun a u hb hs hl hd K hK => by have s75 := gD hd 44; clear hd; go_simp; exact kE hK hs),
   (stp rfl fun a u hb hs hl hd K hK => by have s76 := gD hd 45; have c2 := cell_up hb c2; have c3 := cell_up hb c3; have c9 := cell_up hb c9; have c10 := cell_up hb c10; have c11 := cell_up hb c11; have c12 := cell_up hb c12; have c13 := cell_up hb c13; have c14 := cell_up hb c14; have c15 := cell_up hb c15; have c16 := cell_up hb c16; have c17 := cell_up hb c17; clear hd; go_simp; exact kE hK hs),
   (stp rfl fun a u hb hs hl hd K hK => by
    have s77 := gD hd 46
    have c2 := cell_up hb c2
    have c3 := cell_up hb c3
    have c9 := cell_up hb c9
    have c10 := cell_up hb c10
    have c11 := cell_up hb c11
    have c12 := cell_up hb c12
    have c13 := cell_up hb c13
    have c14 := cell_up hb c14
    have c15 := cell_up hb c15
    have c16 := cell_up hb c16
    have c17 := cell_up hb c17
    clear hd
    have hk2 := (hk3.hh 6 (by decide)).after hb
    go_simp
    refine (c_cdcBytes (H.hh 6).A (H.hh 6).c (H.hh 6).l _ hk2.bs (by have := hk2.len; omega)).mono ?_
    intro e w5 h
    obtain ⟨v, rfl, hv, hb2⟩ := h.at0
    exact hK _ _ hb2 (bs_put hs (by decide) hv)),
   (stp rfl fun a u hb hs hl hd K hK => by have s0 := gL hl 0; clear hd; go_simp; exact kE hK hs),
   (stp rfl fun a u hb hs hl hd K hK => by have s79 := gD hd 48; clear hd; go_simp; exact kE hK hs),
   (stp rfl fun a u hb hs hl hd K hK => by have s80 := gD hd 49; clear hd; go_simp; exact kE hK hs),
   (stp rfl fun a u hb hs hl hd K hK => by have s81 := gD hd 50; have c2 := cell_up hb c2; have c3 := cell_up hb c3; have c9 := cell_up hb c9; have c10 := cell_up hb c10; have c11 := cell_up hb c11; have c12 := cell_up hb c12; have c13 := cell_up hb c13; have c14 := cell_up hb c14; have c15 := cell_up hb c15; have c16 := cell_up hb c16; have c17 := cell_up hb c17; clear hd; go_simp; exact kE hK hs),
   (stp rfl fun a u hb hs hl hd K hK => by
    have s82 := gD hd 51
    have c2 := cell_up hb c2
    have c3 := cell_up hb c3
    have c9 := cell_up hb c9
    have c10 := cell_up hb c10
    have c11 := cell_up hb c11
    have c12 := cell_up hb c12
    have c13 := cell_up hb c13
    have c14 := cell_up hb c14
    have c15 := cell_up hb c15
    have c16 := cell_up hb c16
    have c17 := cell_up hb c17
    clear hd
    have hk2 := (hk3.hh 7 (by decide)).after hb
    go_simp
    refine (c_cdcBytes (H.hh 7).A (H.hh 7).c (H.hh 7).l _ hk2.bs (by have := hk2.len; omega)).mono ?_
    intro e w5 h
    obtain ⟨v, rfl, hv, hb2⟩ := h.at0
    exact hK _ _ hb2 (bs_put hs (by decide) hv)),
   (stp rfl fun a u hb hs hl hd K hK => by have s0 := gL hl 0; clear hd; go_simp; exact kE hK hs),
   (stp rfl fun a u hb hs hl hd K hK => by have s84 := gD hd 53; clear hd; go_simp; exact kE hK hs),
   (stp rfl fun a u hb hs hl hd K hK => by have s85 := gD hd 54; clear hd; go_simp; exact kE hK hs),
   (stp rfl fun a u hb hs hl hd K hK => by have s86 := gD hd 55; have c2 := cell_up hb c2; have c3 := cell_up hb c3; have c9 := cell_up hb c9; have c10 := cell_up hb c10; have c11 := cell_up hb c11; have c12 := cell_up hb c12; have c13 := cell_up hb c13; have c14 := cell_up hb c14; have c15 := cell_up hb c15; have c16 := cell_up hb c16; have c17 := cell_up hb c17; clear hd; go_simp; exact kE hK hs),
   (stp rfl fun a u hb hs hl hd K hK => by
    have s87 := gD hd 56
    have c2 := cell_up hb c2
    have c3 := cell_up hb c3
    have c9 := cell_up hb c9
    have c10 := cell_up hb c10
    have c11 := cell_up hb c11
    have c12 := cell_up hb c12
    have c13 := cell_up hb c13
    have c14 := cell_up hb c14
    have c15 := cell_up hb c15
    have c16 := cell_up hb c16
    have c17 := cell_up hb c17
    clear hd
    have hk2 := hp3.after hb
    go_simp
    refine (c_cdcBytes (ps).A (ps).c (ps).l _ hk2.bs (by have := hk2.len; omega)).mono ?_
    intro e w5 h
    obtain ⟨v, rfl, hv, hb2⟩ := h.at0
    exact hK _ _ hb2 (bs_put hs (by decide) hv)),
   trivial⟩ ?_
 clear hs hd s0 s3 s4 s5
 intro a w hb hs hd zl hh
 replace zl := lH hh 0 zl
 replace zl := lH hh 11 zl
 replace zl := lH hh 12 zl
 have i36 := FItem.bs_holds.1 (hold_get hh 5)
 obtain ⟨v36, s36⟩ : ∃ v, a.tmps.getD 36 undef = v := ⟨_, rfl⟩
 rw [s36] at i36
 have i41 := FItem.bs_holds.1 (hold_get hh 10)
 obtain ⟨v41, s41⟩ : ∃ v, a.tmps.getD 41 undef = v := ⟨_, rfl⟩
 rw [s41] at i41
 have i48 := FItem.bs_holds.1 (hold_get hh 17)
 obtain ⟨v48, s48⟩ : ∃ v, a.tmps.getD 48 undef = v := ⟨_, rfl⟩
 rw [s48] at i48
 have i53 := FItem.bs_holds.1 (hold_get hh 22)
 obtain ⟨v53, s53⟩ : ∃ v, a.tmps.getD 53 undef = v := ⟨_, rfl⟩
 rw [s53] at i53
 have i58 := FItem.bs_holds.1 (hold_get hh 27)
 obtain ⟨v58, s58⟩ : ∃ v, a.tmps.getD 58 undef = v := ⟨_, rfl⟩
 rw [s58] at i58
 have i63 := FItem.bs_holds.1 (hold_get hh 32)
 obtain ⟨v63, s63⟩ : ∃ v, a.tmps.getD 63 undef = v := ⟨_, rfl⟩
 rw [s63] at i63
 have i68 := FItem.bs_holds.1 (hold_get hh 37)
 obtain ⟨v68, s68⟩ : ∃ v, a.tmps.getD 68 undef = v := ⟨_, rfl⟩
 rw [s68] at i68
 have i73 := FItem.bs_holds.1 (hold_get hh 42)
 obtain ⟨v73, s73⟩ : ∃ v, a.tmps.getD 73 undef = v := ⟨_, rfl⟩
 rw [s73] at i73
 have i78 := FItem.bs_holds.1 (hold_get hh 47)
 obtain ⟨v78, s78⟩ : ∃ v, a.tmps.getD 78 undef = v := ⟨_, rfl⟩
 rw [s78] at i78
 have i83 := FItem.bs_holds.1 (hold_get hh 52)
 obtain ⟨v83, s83⟩ : ∃ v, a.tmps.getD 83 undef = v := ⟨_, rfl⟩
 rw [s83] at i83
 have i88 := FItem.bs_holds.1 (hold_get hh 57)
 obtain ⟨v88, s88⟩ : ∃ v, a.tmps.getD 88 undef = v := ⟨_, rfl⟩
 rw [s88] at i88
 clear hh
 replace i3 := i3.after hb
 replace i4 := i4.after hb
 replace i5 := i5.after hb
 replace c2 := cell_up hb c2
 replace c3 := cell_up hb c3
 replace c9 := cell_up hb c9
 replace c10 := cell_up hb c10
 replace c11 := cell_up hb c11
 replace c12 := cell_up hb c12
 replace c13 := cell_up hb c13
 replace c14 := cell_up hb c14
 replace c15 := cell_up hb c15
 replace c16 := cell_up hb c16
 replace c17 := cell_up hb c17
 replace hB := bz_then hB hb
 clear hb
 show wpList _ _ _ [_, _, _] _ _
 refine tail_op rfl (fun K hK => ?_)
 have q31 := gL zl 2
 have q36 := gd s36
 have q41 := gd s41
 have q42 := gL zl 1
 have q43 := gL zl 0
 have q48 := gd s48
 have q53 := gd s53
 have q58 := gd s58
 have q63 := gd s63
 have q68 := gd s68
 have q73 := gd s73
 have q78 := gd s78
 have q83 := gd s83
 have q88 := gd s88
 have j3 := i3
 obtain ⟨x3, A3, k3, -, rfl, -, -, -, -⟩ := j3
 have j4 := i4
 obtain ⟨x4, A4, k4, -, rfl, -, -, -, -⟩ := j4
 have j5 := i5
 obtain ⟨x5, A5, k5, -, rfl, -, -, -, -⟩ := j5
 have j36 := i36
 obtain ⟨x36, A36, k36, -, rfl, -, -, -, -⟩ := j36
 have j41 := i41
 obtain ⟨x41, A41, k41, -, rfl, -, -, -, -⟩ := j41
 have j48 := i48
 obtain ⟨x48, A48, k48, -, rfl, -, -, -, -⟩ := j48
 have j53 := i53
 obtain ⟨x53, A53, k53, -, rfl, -, -, -, -⟩ := j53
 have j58 := i58
 obtain ⟨x58, A58, k58, -, rfl, -, -, -, -⟩ := j58
 have j63 := i63
 obtain ⟨x63, A63, k63, -, rfl, -, -, -, -⟩ := j63
 have j68 := i68
 obtain ⟨x68, A68, k68, -, rfl, -, -, -, -⟩ := j68
 have j73 := i73
 obtain ⟨x73, A73, k73, -, rfl, -, -, -, -⟩ := j73
 have j78 := i78
 obtain ⟨x78, A78, k78, -, rfl, -, -, -, -⟩ := j78
 have j83 := i83
 obtain ⟨x83, A83, k83, -, rfl, -, -, -, -⟩ := j83
 have j88 := i88
 obtain ⟨x88, A88, k88, -, rfl, -, -, -, -⟩ := j88
 go_simp
 clear q31 q36 q41 q42 q43 q48 q53 q58 q63 q68 q73 q78 q83 q88
 refine hK _ _ ?_
 clear hK K
 obtain ⟨s43, s42, s31, -, -, -, -, -⟩ := zl
 refine act_put (d := 89) _ hs hd (by decide) [(31, _), (36, _), (41, _), (42, _), (43, _), (48, _), (53, _), (58, _), (63, _), (68, _), (73, _), (78, _), (83, _), (88, _)] ⟨s31, s36, s41, s42, s43, s48, s53, s58, s63, s68, s73, s78, s83, s88, trivial⟩ rfl ?_
 clear hs hd s31 s36 s41 s42 s43 s48 s53 s58 s63 s68 s73 s78 s83 s88
 intro a hs hd zl
 have hLs := LsV.ls0 (w := w) (vs := [.slice A3 x3.length k3, .slice A36 x36.length k36, .slice A41 x41.length k41, .slice A4 x4.length k4, .slice A5 x5.length k5, .slice A48 x48.length k48, .slice A53 x53.length k53, .slice A58 x58.length k58, .slice A63 x63.length k63, .slice A68 x68.length k68, .slice A73 x73.length k73, .slice A78 x78.length k78, .slice A83 x83.length k83, .slice A88 x88.length k88]) (ls := H.leaves) ⟨i3, i36, i41, i4, i5, i48, i53, i58, i63, i68, i73, i78, i83, by rw [← hpl.out]; exact i88, trivial⟩ (by simp)
 clear i3 i4 i5 i36 i41 i48 i53 i58 i63 i68 i73 i78 i83 i88
 generalize hw1 : World.alloc w _ = w1
 rw [show (World.alloc w _) = w1 from hw1] at hLs
 have hB1 : Below w.heap.size w w1 := by rw [← hw1]; exact bz_alloc (bz_refl w) _
 replace hB := bz_then hB hB1
 clear hw1 hB1
 refine tail_op rfl (fun K hK => ?_)
 have q89 := gL zl 0
 have hSm : Small H.leaves := Hd.small hn (hk.after hB)
 go_simp
 refine (c_root H.leaves 14 _ 14 _ H.leaves_length (by decide) (by decide) hLs hSm ((hKt.after hB)) (Nat.lt_of_lt_of_le h0 hB.size)).mono ?_
 rintro e w5 ⟨v, rfl, hv, hb2⟩
 clear q89
 refine hK _ _ (tP hs hd zl ?_)
 clear hK K hs hd zl
 intro a hs hd zl
 replace hv := hv.less hB.size
 replace hB := bz_then hB hb2
 refine tail_op rfl (fun K hK => ?_)
 have q90 := gL zl 0
 go_simp
 clear q90
 refine hK _ _ (tP hs hd zl ?_)
 clear hK K hs hd zl
 intro a hs hd zl
 refine wp_ret ?_
 exact end_tmp rfl hd (vL zl 0) ⟨v, rfl, hv, hB⟩
end Go.Proofs.YtcmllcmcbamlbaaDoor
namespace Go.Proofs.YtcmllcmcbamlbaaDoor
open Go.RowKit

/-- 'below': a number from 0 to n - 1. -/
def bel (x n : Int) : Int := (if x < -x - 1 then -x - 1 else x) % n
theorem bel_range (x n : Int) (hn : 0 < n) : 0 ≤ bel x n ∧ bel x n < n := by
 unfold bel
 exact ⟨Int.emod_nonneg _ (by omega), Int.emod_lt_of_pos _ hn⟩
theorem bel_neg (x : Int) (hx : -9223372036854775808 ≤ x ∧ x ≤ 9223372036854775807) : wrap64 (-wrap64 (x + 1)) = -x - 1 := by
 unfold wrap64; omega

theorem c_below (x n : Int) (w : World) (hx : -9223372036854775808 ≤ x ∧ x ≤ 9223372036854775807) (hn : 0 < n ∧ n ≤ 9223372036854775807) :
  Calls Tryd.prog 7 #[.int .i64 x, .int .i64 n] w fun e w' => e = .returned (.int .i64 (bel x n)) ∧ w = w' := by
 have H := bel_neg x hx
 go_enter Tryd.func7, Tryd.ntmps7
 go_wp2
 ·go_ret
  have h1 : x < -x - 1 := by assumption
  exact ⟨by unfold bel; rw [if_pos h1]; rfl, rfl⟩
 ·go_ret
  have h1 : -x - 1 ≤ x := by assumption
  exact ⟨by unfold bel; rw [if_neg (by omega)]; rfl, rfl⟩

/-- 'comettypes.UnixTime'. -/
theorem c_UnixTime (s n : Int) (w : World) (hs : -9000000000000000000 ≤ s ∧ s ≤ 9000000000000000000) :
  Calls Tryd.prog 55 #[.int .i64 s, .int .i32 n] w fun e w' => e = .returned (.agg #[.int .i64 (s + 62135596800), .int .i32 n]) ∧ Below w.heap.size w w' := by
 go_enter Tryd.func55, Tryd.ntmps55
 go_wp2
 exact bodyPost_ret (v := .agg #[.int .i64 (s + 62135596800), .int .i32 n]) (by simp [results, Tryd.results55, go_sem]) rfl ⟨rfl, (Below.refl _ _).alloc (Nat.le_refl _) _⟩

/-- 'impl.moment'. -/
theorem c_moment (s n : Int) (w : World) (hs : -9000000000000000000 ≤ s ∧ s ≤ 9000000000000000000) (hn : 0 ≤ n ∧ n ≤ 2147483647) :
  Calls Tryd.prog 42 #[.agg #[.int .i64 s, .int .i64 n]] w fun e w' => e = .returned (.agg #[.int .i64 (s + 62135596800), .int .i32 n]) ∧ Below w.heap.size w w' := by
 go_enter Tryd.func42, Tryd.ntmps42
 go_wp2_with (go_at_call 55; refine (c_UnixTime _ _ _ (by omega)).mono ?_; rintro e w1 ⟨rfl, hb⟩; obtain ⟨hc, hf⟩ := bcell hb; have hz := hb.size; simp only [World.size_alloc] at hc hf hz)
 exact bodyPost_ret (v := .agg #[.int .i64 (s + 62135596800), .int .i32 n]) (by simp [results, Tryd.results42, go_sem, hc]) rfl ⟨rfl, by
  refine Below.setCell (Below.setCell ?_ (by simp) _) (by simp) _
  exact (((Below.refl _ _).alloc (Nat.le_refl _) _).alloc (by simp) _).trans (hb.mono (by simp; omega))⟩

/-- A time is later, in Bool. -/
def laterB (s n s' n' : Int) : Bool := decide (s' < s) || (decide (s = s') && decide (n' < n))

/-- '(Time).After'. -/
theorem c_After (s n s' n' : Int) (w : World) :
  Calls Tryd.prog 47 #[.agg #[.int .i64 s, .int .i32 n], .agg #[.int .i64 s', .int .i32 n']] w fun e w' => e = .returned (.bool (laterB s n s' n')) ∧ Below w.heap.size w w' := by
 by_cases h1 : s' < s
 ·go_enter Tryd.func47, Tryd.ntmps47
  go_wp2
  go_ret
  exact ⟨by simp [laterB, h1], by (repeat' (first | exact Below.refl _ _ | exact Nat.le_refl _ | (with_reducible assumption) | refine Below.setCell ?_ ?_ _ | refine Below.alloc ?_ ?_ _ | refine below_drewN ?_ _ | refine Below.drew ?_ | (simp; done) | omega | (simp; omega) | (simp at *; omega)))⟩
 ·by_cases h2 : s = s'
  ·subst h2
   by_cases h3 : n' < n
   all_goals
    go_enter Tryd.func47, Tryd.ntmps47
    go_wp2
    go_ret
    exact ⟨by simp [laterB, h3], by (repeat' (first | exact Below.refl _ _ | exact Nat.le_refl _ | (with_reducible assumption) | refine Below.setCell ?_ ?_ _ | refine Below.alloc ?_ ?_ _ | refine below_drewN ?_ _ | refine Below.drew ?_ | (simp; done) | omega | (simp; omega) | (simp at *; omega)))⟩
  ·have h4 : (s == s') = false := by simpa using h2
   go_enter Tryd.func47, Tryd.ntmps47
   go_wp2
   go_ret
   exact ⟨by simp [laterB, h1, h2], by (repeat' (first | exact Below.refl _ _ | exact Nat.le_refl _ | (with_reducible assumption) | refine Below.setCell ?_ ?_ _ | refine Below.alloc ?_ ?_ _ | refine below_drewN ?_ _ | refine Below.drew ?_ | (simp; done) | omega | (simp; omega) | (simp at *; omega)))⟩

/-- What 'errors.New' hands back: a new error. -/
def NewErr (w : World) (e : Ending) (w' : World) : Prop := ∃ a : Addr, e = .returned (.iface 102 (.pointer (some a))) ∧ Below w.heap.size w w'

theorem c_errNew (s : ByteArray) (w : World) : Calls Tryd.prog 38 #[.string s] w (NewErr w) := by
 go_enter Tryd.func38, Tryd.ntmps38
 go_wp2
 go_ret
 exact ⟨_, rfl, (Below.refl _ _).alloc (Nat.le_refl _) _⟩

end Go.Proofs.YtcmllcmcbamlbaaDoor
namespace Go.Proofs.YtcmllcmcbamlbaaDoor
open Go.RowKit

theorem c_Ahead (s n s' n' : Int) (w : World) :
  Calls Tryd.prog 30 #[.agg #[.int .i64 s, .int .i64 n], .agg #[.int .i64 s', .int .i64 n']] w fun e w' => e = .returned (.bool (laterB s' n' s n)) ∧ Below w.heap.size w w' := by
 by_cases h1 : s < s'
 ·go_enter Tryd.func30, Tryd.ntmps30
  go_wp2
  go_ret
  exact ⟨by simp [laterB, h1], by (repeat' (first | exact Below.refl _ _ | exact Nat.le_refl _ | (with_reducible assumption) | refine Below.setCell ?_ ?_ _ | refine Below.alloc ?_ ?_ _ | refine below_drewN ?_ _ | refine Below.drew ?_ | (simp; done) | omega | (simp; omega) | (simp at *; omega)))⟩
 ·by_cases h2 : s = s'
  ·subst h2
   by_cases h3 : n < n'
   all_goals
    go_enter Tryd.func30, Tryd.ntmps30
    go_wp2
    go_ret
    exact ⟨by simp [laterB, h3], by (repeat' (first | exact Below.refl _ _ | exact Nat.le_refl _ | (with_reducible assumption) | refine Below.setCell ?_ ?_ _ | refine Below.alloc ?_ ?_ _ | refine below_drewN ?_ _ | refine Below.drew ?_ | (simp; done) | omega | (simp; omega) | (simp at *; omega)))⟩
  ·have h4 : (s == s') = false := by simpa using h2
   have h5 : ¬ s' = s := fun e => h2 e.symm
   go_enter Tryd.func30, Tryd.ntmps30
   go_wp2
   go_ret
   exact ⟨by simp [laterB, h1, h5], by (repeat' (first | exact Below.refl _ _ | exact Nat.le_refl _ | (with_reducible assumption) | refine Below.setCell ?_ ?_ _ | refine Below.alloc ?_ ?_ _ | refine below_drewN ?_ _ | refine Below.drew ?_ | (simp; done) | omega | (simp; omega) | (simp at *; omega)))⟩
end Go.Proofs.YtcmllcmcbamlbaaDoor
namespace Go.Proofs.YtcmllcmcbamlbaaDoor
open Go.RowKit
theorem str_nil : strOfNums [] = ByteArray.empty := rfl
set_option maxRecDepth 100000 in
/-- Bytes as a string. -/
theorem run_conv_bs {w : World} {A : Option Addr} {c : Nat} {l : List Int} (hf : Fm A l.length c) (hb : Bs w A l) (src dst : TypeId) (hs : Tryd.prog.underlying src = some (.slice 5)) (hd : Tryd.prog.underlying dst = some .string) :
  (convert src dst (.slice A l.length c)).run Tryd.prog w = .ok (.string (strOfNums l)) w := by
 rcases hf.arg with ⟨rfl, rfl, h0⟩ | ⟨b, o, rfl⟩
 ·have h0 : l = [] := h0
  subst h0
  have h := run_convert_bytes_nil (P := Tryd.prog) w src 5 hs Tryd.underlying5 ([] : List Int).length 0 dst hd
  rw [str_nil]
  exact h
 ·refine run_convert_bytes_arg w src 5 hs Tryd.underlying5 b o l.length c l rfl (fun i hi => ?_) dst hd
  obtain ⟨b', o', e, _, hc⟩ := hb i hi
  injection e with e
  injection e with e1 e2
  subst e1 e2
  exact hc
set_option maxRecDepth 100000 in
/-- The same; of no bytes, whatever the address. -/
theorem run_conv_any {w : World} {A : Option Addr} {c : Nat} {l : List Int} (hf : Fm A l.length c ∨ ∃ ad, A = some ad ∧ l = []) (hb : Bs w A l) (src dst : TypeId) (hs : Tryd.prog.underlying src = some (.slice 5)) (hd : Tryd.prog.underlying dst = some .string) :
  (convert src dst (.slice A l.length c)).run Tryd.prog w = .ok (.string (strOfNums l)) w := by
 rcases hf with hf | ⟨ad, rfl, rfl⟩
 ·exact run_conv_bs hf hb src dst hs hd
 ·have hl : (loadCells ad 0).run Tryd.prog w = .ok (([] : List Int).map (Value.int .u8)).toArray w := by
   simpa using run_loadCells_list (P := Tryd.prog) w ad [] (fun j v hj => by simp at hj)
  show (convert src dst (.slice (some ad) 0 c)).run Tryd.prog w = _
  rw [run_convert_bytes_string w src dst 5 _ 0 c hs Tryd.underlying5 hd, run_bytesToString w ad 0 c [] hl, str_nil]
  rfl
theorem bytesOf_str {l : List Int} (h : Bytes l) : bytesOf (strOfNums l) = l := by
 unfold bytesOf
 rw [strOfNums_data, List.map_map]
 conv => rhs; rw [← List.map_id l]
 refine List.map_congr_left fun x hx => ?_
 have := h x hx
 unfold U8 at this
 simp only [Function.comp, id]
 rw [UInt8.toNat_ofNat']
 omega
theorem str_size (l : List Int) : (strOfNums l).size = l.length := strOfNums_size l
/-- Two strings are the same. -/
def eqB (s t : ByteArray) : Bool := s.toList == t.toList
theorem eqB_iff (s t : ByteArray) : eqB s t = true ↔ s = t := by
 unfold eqB
 rw [beq_iff_eq, ByteArray.toList_eq, ByteArray.toList_eq]
 constructor
 ·intro h
  cases s
  cases t
  congr 1
  exact Array.toList_inj.1 h
 ·rintro rfl; rfl
theorem eqB_str {l k : List Int} (hl : Bytes l) (hk : Bytes k) : eqB (strOfNums l) (strOfNums k) = decide (l = k) := by
 by_cases h : l = k
 ·subst h
  simp [eqB]
 ·have : eqB (strOfNums l) (strOfNums k) = false := by
   rw [Bool.eq_false_iff]
   intro e
   rw [eqB_iff] at e
   apply h
   rw [← bytesOf_str hl, ← bytesOf_str hk, e]
  rw [this]
  simp [h]
theorem c_bEqual (A A' : Option Addr) (c c' : Nat) (l k : List Int) (w : World) (hf : Fm A l.length c) (hb : Bs w A l) (h8 : Bytes l) (hf' : Fm A' k.length c') (hb' : Bs w A' k) (h8' : Bytes k) :
  Calls Tryd.prog 40 #[.slice A l.length c, .slice A' k.length c'] w fun e w' => e = .returned (.bool (decide (l = k))) ∧ w' = w := by
 have h1 := run_conv_bs hf hb 23 9 Tryd.underlying23 Tryd.underlying9
 have h2 := run_conv_bs hf' hb' 23 9 Tryd.underlying23 Tryd.underlying9
 rw [← eqB_str h8 h8']
 unfold eqB
 go_enter Tryd.func40, Tryd.ntmps40
 go_wp2
 go_ret
 exact ⟨rfl, rfl⟩

/-- A sum, or none. -/
def Sized (l : List Int) : Prop := l.length = 0 ∨ l.length = 32
theorem c_vHash (A : Option Addr) (c : Nat) (l : List Int) (w : World) (hl : Sized l) : Calls Tryd.prog 46 #[.slice A l.length c] w fun e w' => e = .returned .nilIface ∧ w' = w := by
 obtain ⟨n, hn⟩ : ∃ n, Is l.length n := is_self _
 unfold Sized at hl
 rw [hn.out] at hl ⊢
 rcases hl with rfl | rfl
 ·go_enter Tryd.func46, Tryd.ntmps46
  go_wp2
  go_ret
  exact ⟨rfl, rfl⟩
 ·go_enter Tryd.func46, Tryd.ntmps46
  go_wp2
  go_ret
  exact ⟨rfl, rfl⟩
theorem c_pshV (p : Int) (A : Option Addr) (c : Nat) (l : List Int) (w : World) (hl : Sized l) : Calls Tryd.prog 56 #[.agg #[.int .u32 p, .slice A l.length c]] w fun e w' => e = .returned .nilIface ∧ Below w.heap.size w w' := by
 go_enter Tryd.func56, Tryd.ntmps56
 go_wp2_with (go_at_call 46; refine (c_vHash _ _ _ _ hl).mono ?_; rintro e w1 ⟨rfl, rfl⟩)
 go_ret
 exact ⟨rfl, by (repeat' (first | exact Below.refl _ _ | exact Nat.le_refl _ | (with_reducible assumption) | refine Below.setCell ?_ ?_ _ | refine Below.alloc ?_ ?_ _ | refine below_drewN ?_ _ | refine Below.drew ?_ | (simp; done) | omega | (simp; omega) | (simp at *; omega)))⟩
theorem c_bidV (p : Int) (A A' : Option Addr) (c c' : Nat) (s r : List Int) (w : World) (hs : Sized s) (hr : Sized r) : Calls Tryd.prog 45 #[.agg #[.slice A s.length c, .int .u32 p, .slice A' r.length c']] w fun e w' => e = .returned .nilIface ∧ Below w.heap.size w w' := by
 go_enter Tryd.func45, Tryd.ntmps45
 go_wp2_with (first | (go_at_call 46; refine (c_vHash _ _ _ _ hs).mono ?_; rintro e w1 ⟨rfl, rfl⟩) | (go_at_call 56; refine (c_pshV _ _ _ _ _ hr).mono ?_; rintro e w1 ⟨rfl, hb1⟩))
 go_ret
 exact ⟨rfl, bz_then (bz_alloc (bz_refl _) _) hb1⟩
theorem c_Before (s n s' n' : Int) (w : World) :
  Calls Tryd.prog 39 #[.agg #[.int .i64 s, .int .i32 n], .agg #[.int .i64 s', .int .i32 n']] w fun e w' => e = .returned (.bool (laterB s' n' s n)) ∧ Below w.heap.size w w' := by
 go_enter Tryd.func39, Tryd.ntmps39
 go_wp2_with (go_at_call 47; refine (c_After _ _ _ _ _).mono ?_; rintro e w1 ⟨rfl, hb1⟩)
 go_ret
 exact ⟨rfl, bz_then (bz_alloc (bz_alloc (bz_refl _) _) _) hb1⟩
end Go.Proofs.YtcmllcmcbamlbaaDoor
namespace Go.Proofs.YtcmllcmcbamlbaaDoor
open Go.RowKit
def formedB (H : Hd) : Bool := (H.vb == 11) && decide (H.ch.size ≤ 50) && decide (H.pr.size = 20)
/-- All sums are sums, or none. -/
structure Hd.sized (H : Hd) : Prop where
 bh : Sized H.bh.l
 bp : Sized H.bp.l
 hh : ∀ i, i < 8 → Sized (H.hh i).l
/-- nil, or a new error. -/
def ErrIf (ok : Bool) (w : World) (e : Ending) (w' : World) : Prop :=
 (ok = true ∧ e = .returned .nilIface ∨ ok = false ∧ ∃ a : Addr, e = .returned (.iface 102 (.pointer (some a)))) ∧ Below w.heap.size w w'
theorem ErrIf.yes {ok : Bool} {w w' : World} (h : ok = true) (hb : Below w.heap.size w w') : ErrIf ok w (.returned .nilIface) w' := ⟨.inl ⟨h, rfl⟩, hb⟩
theorem ErrIf.no {ok : Bool} {w w' : World} {a : Addr} (h : ok = false) (hb : Below w.heap.size w w') : ErrIf ok w (.returned (.iface 102 (.pointer (some a)))) w' := ⟨.inr ⟨h, a, rfl⟩, hb⟩

set_option maxHeartbeats 4000000 in
set_option maxRecDepth 100000 in
theorem c_HValid (H : Hd) (ps : HSl) (w : World) (hht : 0 < H.ht) (hz : H.sized) (hpl : ps.l.length = H.pr.size) :
  Calls Tryd.prog 37 #[.agg (H.pcells ps)] w fun e w' => ErrIf (formedB H) w e w' := by
 suffices h : ∀ w0, Below w0.heap.size w0 w → Calls Tryd.prog 37 #[.agg (H.pcells ps)] w fun e w' => ErrIf (formedB H) w0 e w' from h w (bz_refl w)
 intro w0 hB
 refine enter_abs Tryd.func37 rfl 82 rfl (by simp) ?_
 intro a hs hd hargs
 have s0 := hargs 0 _ rfl
 clear hargs
 refine wp_seq ?_
 refine wp_region_list ?_
 show wpList _ _ _ [_, _] _ _
 refine tail_op rfl (fun K hK => ?_)
 have q0 := gd s0
 go_simp
 clear q0
 refine hK _ _ ?_
 clear hK K
 refine act_put (d := 1) _ hs hd (by decide) [(0, _)] ⟨s0, trivial⟩ rfl ?_
 clear hs hd s0
 intro a hs hd zl
 obtain ⟨g, hE⟩ : ∃ B, Is w.heap.size B := is_self _
 generalize hw1 : World.alloc w _ = w1
 have hg : Blk w1 g 93 (H.pcells ps) := by rw [← hw1, ← hE.out]; exact Blk.new w _ _
 have hB1 : Below w.heap.size w w1 := by rw [← hw1]; exact bz_alloc (bz_refl w) _
 replace hB := bz_then hB hB1
 obtain ⟨s1, s0, -⟩ := zl
 rw [hE.out] at s1
 clear hw1 hB1 hE
 refine tail_op rfl (fun K hK => ?_)
 go_simp
 refine hK _ _ ?_
 clear hK K
 refine act_put (d := 2) _ hs hd (by decide) [(0, _), (1, _)] ⟨s0, s1, trivial⟩ rfl ?_
 clear hs hd s0 s1
 intro a hs hd zl
 have c0 : w1.cell? ⟨g, 0, none⟩ = some (.int .u64 H.vb) := by rw [hg.cell]; rfl
 have c2 : w1.cell? ⟨g, 2, none⟩ = some (.string H.ch) := by rw [hg.cell]; rfl
 have c3 : w1.cell? ⟨g, 3, none⟩ = some (.int .i64 H.ht) := by rw [hg.cell]; rfl
 by_cases h1 : H.vb = 11
 ·by_cases h2 : H.ch.size ≤ 50
  ·by_cases h3 : H.pr.size = 20
   ·have e1 : (H.vb == 11) = true := by rw [h1]; rfl
    have e1' : (H.vb != 11) = false := by rw [h1]; rfl
    have e2 : decide (50 < H.ch.size) = false := decide_eq_false (by omega)
    have e2' : decide ((50 : Int) < (H.ch.size : Int)) = false := decide_eq_false (by omega)
    have e3 : decide (H.ht < 0) = false := decide_eq_false (by omega)
    have e4 : (H.ht == 0) = false := by rw [beq_eq_false_iff_ne]; omega
    have e5 : ((ps.l.length : Int) != 20) = false := by rw [hpl, h3]; rfl
    refine wp_seq ?_
    refine wp_seq ?_
    refine wp_region_list ?_
    show wpList _ _ _ [_, _, _, _] _ _
    refine tail_op rfl (fun K hK => ?_)
    have q1 := gL zl 2
    go_simp
    clear q1
    refine hK _ _ (tP hs hd zl ?_)
    clear hK K hs hd zl
    intro a hs hd zl
    refine tail_op rfl (fun K hK => ?_)
    have q11 := gL zl 0
    go_simp
    clear q11
    refine hK _ _ (tP hs hd zl ?_)
    clear hK K hs hd zl
    intro a hs hd zl
    refine tail_op rfl (fun K hK => ?_)
    have q12 := gL zl 0
    go_simp
    clear q12
    refine hK _ _ (tP hs hd zl ?_)
    clear hK K hs hd zl
    intro a hs hd zl
    refine tail_op rfl (fun K hK => ?_)
    have q13 := gL zl 0
    go_simp
    clear q13
    refine hK _ _ (tP hs hd zl ?_)
    clear hK K hs hd zl
    intro a hs hd zl
    refine wp_cond_false (vL zl 0) ?_
    refine wp_skip ?_
    refine wp_seq ?_
    refine wp_seq ?_
    refine wp_region_list ?_
    show wpList _ _ _ [_, _, _, _] _ _
    refine tail_op rfl (fun K hK => ?_)
    have q1 := gL zl 6
    go_simp
    clear q1
    refine hK _ _ (tP hs hd zl ?_)
    clear hK K hs hd zl
    intro a hs hd zl
    refine tail_op rfl (fun K hK => ?_)
    have q16 := gL zl 0
    go_simp
    clear q16
    refine hK _ _ (tP hs hd zl ?_)
    clear hK K hs hd zl
    intro a hs hd zl
    refine tail_op rfl (fun K hK => ?_)
    have q17 := gL zl 0
    go_simp
    clear q17
    refine hK _ _ (tP hs hd zl ?_)
    clear hK K hs hd zl
    intro a hs hd zl
    refine tail_op rfl (fun K hK => ?_)
    have q18 := gL zl 0
    go_simp
    clear q18
    refine hK _ _ (tP hs hd zl ?_)
    clear hK K hs hd zl
    intro a hs hd zl
    refine wp_cond_false (vL zl 0) ?_
    refine wp_skip ?_
    refine wp_seq ?_
    refine wp_seq ?_
    refine wp_region_list ?_
    show wpList _ _ _ [_, _, _] _ _
    refine tail_op rfl (fun K hK => ?_)
    have q1 := gL zl 10
    go_simp
    clear q1
    refine hK _ _ (tP hs hd zl ?_)
    clear hK K hs hd zl
    intro a hs hd zl
    refine tail_op rfl (fun K hK => ?_)
    have q21 := gL zl 0
    go_simp
    clear q21
    refine hK _ _ (tP hs hd zl ?_)
    clear hK K hs hd zl
    intro a hs hd zl
    refine tail_op rfl (fun K hK => ?_)
    have q22 := gL zl 0
    go_simp
    clear q22
    refine hK _ _ (tP hs hd zl ?_)
    clear hK K hs hd zl
    intro a hs hd zl
    refine wp_cond_false (vL zl 0) ?_
    refine wp_seq ?_
    refine wp_region_list ?_
    show wpList _ _ _ [_, _, _] _ _
    refine tail_op rfl (fun K hK => ?_)
    have q1 := gL zl 13
    go_simp
    clear q1
    refine hK _ _ (tP hs hd zl ?_)
    clear hK K hs hd zl
    intro a hs hd zl
    refine tail_op rfl (fun K hK => ?_)
    have q25 := gL zl 0
    go_simp
    clear q25
    refine hK _ _ (tP hs hd zl ?_)
    clear hK K hs hd zl
    intro a hs hd zl
    refine tail_op rfl (fun K hK => ?_)
    have q26 := gL zl 0
    go_simp
    clear q26
    refine hK _ _ (tP hs hd zl ?_)
    clear hK K hs hd zl
    intro a hs hd zl
    refine wp_cond_false (vL zl 0) ?_
    refine wp_skip ?_
    refine wp_seq ?_
    refine wp_seq ?_
    refine wp_region_list ?_
    show wpList _ _ _ [_, _, _, _] _ _
    refine tail_op rfl (fun K hK => ?_)
    have q1 := gL zl 16
    go_simp
    clear q1
    refine hK _ _ (tP hs hd zl ?_)
    clear hK K hs hd zl
    intro a hs hd zl
    refine tail_op rfl (fun K hK => ?_)
    have q29 := gL zl 0
    have s29 := vL zl 0
    refine op_load_part 91 (.tmp 29) rfl g 6 s29 _ _ #[H.bh.v, .int .u32 H.bt, H.bp.v] _ hg (show (6 + 3 : Nat) ≤ 18 by decide) rfl rfl (by kernel_rfl) rfl ?_
    clear q29
    refine hK _ _ (tP hs hd zl ?_)
    clear hK K hs hd zl s29
    intro a hs hd zl
    refine tail_op rfl (fun K hK => ?_)
    have q30 := gL zl 0
    unfold HSl.v at q30
    go_simp
    refine (c_bidV H.bt H.bh.A H.bp.A H.bh.c H.bp.c H.bh.l H.bp.l _ hz.bh hz.bp).mono ?_
    rintro e w4 ⟨rfl, hb2⟩
    clear q30
    refine hK _ _ (tP hs hd zl ?_)
    clear hK K hs hd zl
    intro a hs hd zl
    replace hB := bz_then hB hb2
    replace hg := hg.after hb2
    clear hb2 c0 c2 c3
    refine tail_op rfl (fun K hK => ?_)
    have q31 := gL zl 0
    go_simp
    clear q31
    refine hK _ _ (tP hs hd zl ?_)
    clear hK K hs hd zl
    intro a hs hd zl
    refine wp_seq ?_
    refine wp_region_list ?_
    show wpList _ _ _ [_, _] _ _
    refine tail_op rfl (fun K hK => ?_)
    have q3 := gL zl 0
    go_simp
    clear q3
    refine hK _ _ (tP hs hd zl ?_)
    clear hK K hs hd zl
    intro a hs hd zl
    refine tail_op rfl (fun K hK => ?_)
    have q32 := gL zl 0
    go_simp
    clear q32
    refine hK _ _ (tP hs hd zl ?_)
    clear hK K hs hd zl
    intro a hs hd zl
    refine wp_cond_false (vL zl 0) ?_
    refine wp_skip ?_
    refine wp_seq ?_
    refine wp_seq ?_
    have cc : w4.cell? ⟨g, 9, none⟩ = some (.slice (H.hh 0).A (H.hh 0).l.length (H.hh 0).c) := by rw [hg.cell]; rfl
    refine wp_region_list ?_
    show wpList _ _ _ [_, _, _, _] _ _
    refine tail_op rfl (fun K hK => ?_)
    have q1 := gL zl 22
    go_simp
    clear q1
    refine hK _ _ (tP hs hd zl ?_)
    clear hK K hs hd zl
    intro a hs hd zl
    refine tail_op rfl (fun K hK => ?_)
    have q35 := gL zl 0
    go_simp
    clear q35
    refine hK _ _ (tP hs hd zl ?_)
    clear hK K hs hd zl
    intro a hs hd zl
    refine tail_op rfl (fun K hK => ?_)
    have q36 := gL zl 0
    go_simp
    refine (c_vHash (H.hh 0).A (H.hh 0).c (H.hh 0).l _ (hz.hh 0 (by decide))).mono ?_
    rintro e w3 ⟨rfl, hw3⟩
    obtain rfl := hw3.symm
    clear q36
    refine hK _ _ (tP hs hd zl ?_)
    clear hK K hs hd zl
    intro a hs hd zl
    refine tail_op rfl (fun K hK => ?_)
    have q37 := gL zl 0
    go_simp
    clear q37
    refine hK _ _ (tP hs hd zl ?_)
    clear hK K hs hd zl
    intro a hs hd zl
    clear cc
    refine wp_seq ?_
    refine wp_region_list ?_
    show wpList _ _ _ [_, _] _ _
    refine tail_op rfl (fun K hK => ?_)
    have q4 := gL zl 0
    go_simp
    clear q4
    refine hK _ _ (tP hs hd zl ?_)
    clear hK K hs hd zl
    intro a hs hd zl
    refine tail_op rfl (fun K hK => ?_)
    have q38 := gL zl 0
    go_simp
    clear q38
    refine hK _ _ (tP hs hd zl ?_)
    clear hK K hs hd zl
    intro a hs hd zl
    refine wp_cond_false (vL zl 0) ?_
    refine wp_skip ?_
    refine wp_seq ?_
    refine wp_seq ?_
    have cc : w4.cell? ⟨g, 10, none⟩ = some (.slice (H.hh 1).A (H.hh 1).l.length (H.hh 1).c) := by rw [hg.cell]; rfl
    refine wp_region_list ?_
    show wpList _ _ _ [_, _, _, _] _ _
    refine tail_op rfl (fun K hK => ?_)
    have q1 := gL zl 28
    go_simp
    clear q1
    refine hK _ _ (tP hs hd zl ?_)
    clear hK K hs hd zl
    intro a hs hd zl
    refine tail_op rfl (fun K hK => ?_)
    have q41 := gL zl 0
    go_simp
    clear q41
    refine hK _ _ (tP hs hd zl ?_)
    clear hK K hs hd zl
    intro a hs hd zl
    refine tail_op rfl (fun K hK => ?_)
    have q42 := gL zl 0
    go_simp
    refine (c_vHash (H.hh 1).A (H.hh 1).c (H.hh 1).l _ (hz.hh 1 (by decide))).mono ?_
    rintro e w3 ⟨rfl, hw3⟩
    obtain rfl := hw3.symm
    clear q42
    refine hK _ _ (tP hs hd zl ?_)
    clear hK K hs hd zl
    intro a hs hd zl
    refine tail_op rfl (fun K hK => ?_)
    have q43 := gL zl 0
    go_simp
    clear q43
    refine hK _ _ (tP hs hd zl ?_)
    clear hK K hs hd zl
    intro a hs hd zl
    clear cc
    refine wp_seq ?_
    refine wp_region_list ?_
    show wpList _ _ _ [_, _] _ _
    refine tail_op rfl (fun K hK => ?_)
    have q5 := gL zl 0
    go_simp
    clear q5
    refine hK _ _ (tP hs hd zl ?_)
    clear hK K hs hd zl
    intro a hs hd zl
    refine tail_op rfl (fun K hK => ?_)
    have q44 := gL zl 0
    go_simp
    clear q44
    refine hK _ _ (tP hs hd zl ?_)
    clear hK K hs hd zl
    intro a hs hd zl
    refine wp_cond_false (vL zl 0) ?_
    refine wp_skip ?_
    refine wp_seq ?_
    refine wp_seq ?_
    have cc : w4.cell? ⟨g, 16, none⟩ = some (.slice (H.hh 7).A (H.hh 7).l.length (H.hh 7).c) := by rw [hg.cell]; rfl
    refine wp_region_list ?_
    show wpList _ _ _ [_, _, _, _] _ _
    refine tail_op rfl (fun K hK => ?_)
    have q1 := gL zl 34
    go_simp
    clear q1
    refine hK _ _ (tP hs hd zl ?_)
    clear hK K hs hd zl
    intro a hs hd zl
    refine tail_op rfl (fun K hK => ?_)
    have q47 := gL zl 0
    go_simp
    clear q47
    refine hK _ _ (tP hs hd zl ?_)
    clear hK K hs hd zl
    intro a hs hd zl
    refine tail_op rfl (fun K hK => ?_)
    have q48 := gL zl 0
    go_simp
    refine (c_vHash (H.hh 7).A (H.hh 7).c (H.hh 7).l _ (hz.hh 7 (by decide))).mono ?_
    rintro e w3 ⟨rfl, hw3⟩
    obtain rfl := hw3.symm
    clear q48
    refine hK _ _ (tP hs hd zl ?_)
    clear hK K hs hd zl
    intro a hs hd zl
    refine tail_op rfl (fun K hK => ?_)
    have q49 := gL zl 0
    go_simp
    clear q49
    refine hK _ _ (tP hs hd zl ?_)
    clear hK K hs hd zl
    intro a hs hd zl
    clear cc
    refine wp_seq ?_
    refine wp_region_list ?_
    show wpList _ _ _ [_, _] _ _
    refine tail_op rfl (fun K hK => ?_)
    have q6 := gL zl 0
    go_simp
    clear q6
    refine hK _ _ (tP hs hd zl ?_)
    clear hK K hs hd zl
    intro a hs hd zl
    refine tail_op rfl (fun K hK => ?_)
    have q50 := gL zl 0
    go_simp
    clear q50
    refine hK _ _ (tP hs hd zl ?_)
    clear hK K hs hd zl
    intro a hs hd zl
    refine wp_cond_false (vL zl 0) ?_
    refine wp_skip ?_
    refine wp_seq ?_
    refine wp_seq ?_
    have cc : w4.cell? ⟨g, 17, none⟩ = some (.slice (ps).A (ps).l.length (ps).c) := by rw [hg.cell]; rfl
    refine wp_region_list ?_
    show wpList _ _ _ [_, _, _, _] _ _
    refine tail_op rfl (fun K hK => ?_)
    have q1 := gL zl 40
    go_simp
    clear q1
    refine hK _ _ (tP hs hd zl ?_)
    clear hK K hs hd zl
    intro a hs hd zl
    refine tail_op rfl (fun K hK => ?_)
    have q53 := gL zl 0
    go_simp
    clear q53
    refine hK _ _ (tP hs hd zl ?_)
    clear hK K hs hd zl
    intro a hs hd zl
    refine tail_op rfl (fun K hK => ?_)
    have q54 := gL zl 0
    go_simp
    clear q54
    refine hK _ _ (tP hs hd zl ?_)
    clear hK K hs hd zl
    intro a hs hd zl
    refine tail_op rfl (fun K hK => ?_)
    have q55 := gL zl 0
    go_simp
    clear q55
    refine hK _ _ (tP hs hd zl ?_)
    clear hK K hs hd zl
    intro a hs hd zl
    clear cc
    refine wp_cond_false (vL zl 0) ?_
    refine wp_skip ?_
    refine wp_seq ?_
    refine wp_seq ?_
    have cc : w4.cell? ⟨g, 11, none⟩ = some (.slice (H.hh 2).A (H.hh 2).l.length (H.hh 2).c) := by rw [hg.cell]; rfl
    refine wp_region_list ?_
    show wpList _ _ _ [_, _, _, _] _ _
    refine tail_op rfl (fun K hK => ?_)
    have q1 := gL zl 44
    go_simp
    clear q1
    refine hK _ _ ?_
    clear hK K
    obtain ⟨s56, -, -, -, -, -, -, -, -, -, -, -, -, -, -, -, -, -, -, -, -, -, -, -, -, -, -, -, -, -, -, -, -, -, -, -, -, -, -, -, -, -, s2, -, s1, -⟩ := zl
    refine act_put (d := 58) _ hs hd (by decide) [(1, _), (2, _), (56, _)] ⟨s1, s2, s56, trivial⟩ rfl ?_
    clear hs hd s1 s2 s56
    intro a hs hd zl
    refine tail_op rfl (fun K hK => ?_)
    have q58 := gL zl 0
    go_simp
    clear q58
    refine hK _ _ (tP hs hd zl ?_)
    clear hK K hs hd zl
    intro a hs hd zl
    refine tail_op rfl (fun K hK => ?_)
    have q59 := gL zl 0
    go_simp
    refine (c_vHash (H.hh 2).A (H.hh 2).c (H.hh 2).l _ (hz.hh 2 (by decide))).mono ?_
    rintro e w3 ⟨rfl, hw3⟩
    obtain rfl := hw3.symm
    clear q59
    refine hK _ _ (tP hs hd zl ?_)
    clear hK K hs hd zl
    intro a hs hd zl
    refine tail_op rfl (fun K hK => ?_)
    have q60 := gL zl 0
    go_simp
    clear q60
    refine hK _ _ (tP hs hd zl ?_)
    clear hK K hs hd zl
    intro a hs hd zl
    clear cc
    refine wp_seq ?_
    refine wp_region_list ?_
    show wpList _ _ _ [_, _] _ _
    refine tail_op rfl (fun K hK => ?_)
    have q7 := gL zl 0
    go_simp
    clear q7
    refine hK _ _ (tP hs hd zl ?_)
    clear hK K hs hd zl
    intro a hs hd zl
    refine tail_op rfl (fun K hK => ?_)
    have q61 := gL zl 0
    go_simp
    clear q61
    refine hK _ _ (tP hs hd zl ?_)
    clear hK K hs hd zl
    intro a hs hd zl
    refine wp_cond_false (vL zl 0) ?_
    refine wp_skip ?_
    refine wp_seq ?_
    refine wp_seq ?_
    have cc : w4.cell? ⟨g, 12, none⟩ = some (.slice (H.hh 3).A (H.hh 3).l.length (H.hh 3).c) := by rw [hg.cell]; rfl
    refine wp_region_list ?_
    show wpList _ _ _ [_, _, _, _] _ _
    refine tail_op rfl (fun K hK => ?_)
    have q1 := gL zl 6
    go_simp
    clear q1
    refine hK _ _ (tP hs hd zl ?_)
    clear hK K hs hd zl
    intro a hs hd zl
    refine tail_op rfl (fun K hK => ?_)
    have q64 := gL zl 0
    go_simp
    clear q64
    refine hK _ _ (tP hs hd zl ?_)
    clear hK K hs hd zl
    intro a hs hd zl
    refine tail_op rfl (fun K hK => ?_)
    have q65 := gL zl 0
    go_simp
    refine (c_vHash (H.hh 3).A (H.hh 3).c (H.hh 3).l _ (hz.hh 3 (by decide))).mono ?_
    rintro e w3 ⟨rfl, hw3⟩
    obtain rfl := hw3.symm
    clear q65
    refine hK _ _ (tP hs hd zl ?_)
    clear hK K hs hd zl
    intro a hs hd zl
    refine tail_op rfl (fun K hK => ?_)
    have q66 := gL zl 0
    go_simp
    clear q66
    refine hK _ _ (tP hs hd zl ?_)
    clear hK K hs hd zl
    intro a hs hd zl
    clear cc
    refine wp_seq ?_
    refine wp_region_list ?_
    show wpList _ _ _ [_, _] _ _
    refine tail_op rfl (fun K hK => ?_)
    have q8 := gL zl 0
    go_simp
    clear q8
    refine hK _ _ (tP hs hd zl ?_)
    clear hK K hs hd zl
    intro a hs hd zl
    refine tail_op rfl (fun K hK => ?_)
    have q67 := gL zl 0
    go_simp
    clear q67
    refine hK _ _ (tP hs hd zl ?_)
    clear hK K hs hd zl
    intro a hs hd zl
    refine wp_cond_false (vL zl 0) ?_
    refine wp_skip ?_
    refine wp_seq ?_
    refine wp_seq ?_
    have cc : w4.cell? ⟨g, 13, none⟩ = some (.slice (H.hh 4).A (H.hh 4).l.length (H.hh 4).c) := by rw [hg.cell]; rfl
    refine wp_region_list ?_
    show wpList _ _ _ [_, _, _, _] _ _
    refine tail_op rfl (fun K hK => ?_)
    have q1 := gL zl 12
    go_simp
    clear q1
    refine hK _ _ (tP hs hd zl ?_)
    clear hK K hs hd zl
    intro a hs hd zl
    refine tail_op rfl (fun K hK => ?_)
    have q70 := gL zl 0
    go_simp
    clear q70
    refine hK _ _ (tP hs hd zl ?_)
    clear hK K hs hd zl
    intro a hs hd zl
    refine tail_op rfl (fun K hK => ?_)
    have q71 := gL zl 0
    go_simp
    refine (c_vHash (H.hh 4).A (H.hh 4).c (H.hh 4).l _ (hz.hh 4 (by decide))).mono ?_
    rintro e w3 ⟨rfl, hw3⟩
    obtain rfl := hw3.symm
    clear q71
    refine hK _ _ (tP hs hd zl ?_)
    clear hK K hs hd zl
    intro a hs hd zl
    refine tail_op rfl (fun K hK => ?_)
    have q72 := gL zl 0
    go_simp
    clear q72
    refine hK _ _ (tP hs hd zl ?_)
    clear hK K hs hd zl
    intro a hs hd zl
    clear cc
    refine wp_seq ?_
    refine wp_region_list ?_
    show wpList _ _ _ [_, _] _ _
    refine tail_op rfl (fun K hK => ?_)
    have q9 := gL zl 0
    go_simp
    clear q9
    refine hK _ _ (tP hs hd zl ?_)
    clear hK K hs hd zl
    intro a hs hd zl
    refine tail_op rfl (fun K hK => ?_)
    have q73 := gL zl 0
    go_simp
    clear q73
    refine hK _ _ (tP hs hd zl ?_)
    clear hK K hs hd zl
    intro a hs hd zl
    refine wp_cond_false (vL zl 0) ?_
    refine wp_skip ?_
    refine wp_seq ?_
    refine wp_seq ?_
    have cc : w4.cell? ⟨g, 15, none⟩ = some (.slice (H.hh 6).A (H.hh 6).l.length (H.hh 6).c) := by rw [hg.cell]; rfl
    refine wp_region_list ?_
    show wpList _ _ _ [_, _, _, _] _ _
    refine tail_op rfl (fun K hK => ?_)
    have q1 := gL zl 18
    go_simp
    clear q1
    refine hK _ _ (tP hs hd zl ?_)
    clear hK K hs hd zl
    intro a hs hd zl
    refine tail_op rfl (fun K hK => ?_)
    have q76 := gL zl 0
    go_simp
    clear q76
    refine hK _ _ (tP hs hd zl ?_)
    clear hK K hs hd zl
    intro a hs hd zl
    refine tail_op rfl (fun K hK => ?_)
    have q77 := gL zl 0
    go_simp
    refine (c_vHash (H.hh 6).A (H.hh 6).c (H.hh 6).l _ (hz.hh 6 (by decide))).mono ?_
    rintro e w3 ⟨rfl, hw3⟩
    obtain rfl := hw3.symm
    clear q77
    refine hK _ _ (tP hs hd zl ?_)
    clear hK K hs hd zl
    intro a hs hd zl
    refine tail_op rfl (fun K hK => ?_)
    have q78 := gL zl 0
    go_simp
    clear q78
    refine hK _ _ (tP hs hd zl ?_)
    clear hK K hs hd zl
    intro a hs hd zl
    clear cc
    refine wp_seq ?_
    refine wp_region_list ?_
    show wpList _ _ _ [_, _] _ _
    refine tail_op rfl (fun K hK => ?_)
    have q10 := gL zl 0
    go_simp
    clear q10
    refine hK _ _ (tP hs hd zl ?_)
    clear hK K hs hd zl
    intro a hs hd zl
    refine tail_op rfl (fun K hK => ?_)
    have q79 := gL zl 0
    go_simp
    clear q79
    refine hK _ _ (tP hs hd zl ?_)
    clear hK K hs hd zl
    intro a hs hd zl
    refine wp_cond_false (vL zl 0) ?_
    refine wp_skip ?_
    refine wp_seq ?_
    refine wp_region_list ?_
    show wpList _ _ _ [_] _ _
    refine tail_op rfl (fun K hK => ?_)
    go_simp
    refine hK _ _ ?_
    clear hK K
    obtain ⟨s80, -, -, -, -, -, -, -, -, -, -, -, -, -, -, -, -, -, -, -, -, -, -, -, s1, s2, -, -⟩ := zl
    refine act_put (d := 2) _ hs hd (by decide) [(1, _), (80, _)] ⟨s1, s80, trivial⟩ rfl ?_
    clear hs hd s1 s2 s80
    intro a hs hd zl
    refine wp_ret ?_
    exact end_tmp rfl hd (vL zl 0) (ErrIf.yes (by simp [formedB, h1, h2, h3]) hB)
   ·have e1 : (H.vb == 11) = true := by rw [h1]; rfl
    have e1' : (H.vb != 11) = false := by rw [h1]; rfl
    have e2 : decide (50 < H.ch.size) = false := decide_eq_false (by omega)
    have e2' : decide ((50 : Int) < (H.ch.size : Int)) = false := decide_eq_false (by omega)
    have e3 : decide (H.ht < 0) = false := decide_eq_false (by omega)
    have e4 : (H.ht == 0) = false := by rw [beq_eq_false_iff_ne]; omega
    have e5 : ((H.pr.size : Int) != 20) = true := by rw [bne_iff_ne]; omega
    refine wp_seq ?_
    refine wp_seq ?_
    refine wp_region_list ?_
    show wpList _ _ _ [_, _, _, _] _ _
    refine tail_op rfl (fun K hK => ?_)
    have q1 := gL zl 2
    go_simp
    clear q1
    refine hK _ _ (tP hs hd zl ?_)
    clear hK K hs hd zl
    intro a hs hd zl
    refine tail_op rfl (fun K hK => ?_)
    have q11 := gL zl 0
    go_simp
    clear q11
    refine hK _ _ (tP hs hd zl ?_)
    clear hK K hs hd zl
    intro a hs hd zl
    refine tail_op rfl (fun K hK => ?_)
    have q12 := gL zl 0
    go_simp
    clear q12
    refine hK _ _ (tP hs hd zl ?_)
    clear hK K hs hd zl
    intro a hs hd zl
    refine tail_op rfl (fun K hK => ?_)
    have q13 := gL zl 0
    go_simp
    clear q13
    refine hK _ _ (tP hs hd zl ?_)
    clear hK K hs hd zl
    intro a hs hd zl
    refine wp_cond_false (vL zl 0) ?_
    refine wp_skip ?_
    refine wp_seq ?_
    refine wp_seq ?_
    refine wp_region_list ?_
    show wpList _ _ _ [_, _, _, _] _ _
    refine tail_op rfl (fun K hK => ?_)
    have q1 := gL zl 6
    go_simp
    clear q1
    refine hK _ _ (tP hs hd zl ?_)
    clear hK K hs hd zl
    intro a hs hd zl
    refine tail_op rfl (fun K hK => ?_)
    have q16 := gL zl 0
    go_simp
    clear q16
    refine hK _ _ (tP hs hd zl ?_)
    clear hK K hs hd zl
    intro a hs hd zl
    refine tail_op rfl (fun K hK => ?_)
    have q17 := gL zl 0
    go_simp
    clear q17
    refine hK _ _ (tP hs hd zl ?_)
    clear hK K hs hd zl
    intro a hs hd zl
    refine tail_op rfl (fun K hK => ?_)
    have q18 := gL zl 0
    go_simp
    clear q18
    refine hK _ _ (tP hs hd zl ?_)
    clear hK K hs hd zl
    intro a hs hd zl
    refine wp_cond_false (vL zl 0) ?_
    refine wp_skip ?_
    refine wp_seq ?_
    refine wp_seq ?_
    refine wp_region_list ?_
    show wpList _ _ _ [_, _, _] _ _
    refine tail_op rfl (fun K hK => ?_)
    have q1 := gL zl 10
    go_simp
    clear q1
    refine hK _ _ (tP hs hd zl ?_)
    clear hK K hs hd zl
    intro a hs hd zl
    refine tail_op rfl (fun K hK => ?_)
    have q21 := gL zl 0
    go_simp
    clear q21
    refine hK _ _ (tP hs hd zl ?_)
    clear hK K hs hd zl
    intro a hs hd zl
    refine tail_op rfl (fun K hK => ?_)
    have q22 := gL zl 0
    go_simp
    clear q22
    refine hK _ _ (tP hs hd zl ?_)
    clear hK K hs hd zl
    intro a hs hd zl
    refine wp_cond_false (vL zl 0) ?_
    refine wp_seq ?_
    refine wp_region_list ?_
    show wpList _ _ _ [_, _, _] _ _
    refine tail_op rfl (fun K hK => ?_)
    have q1 := gL zl 13
    go_simp
    clear q1
    refine hK _ _ (tP hs hd zl ?_)
    clear hK K hs hd zl
    intro a hs hd zl
    refine tail_op rfl (fun K hK => ?_)
    have q25 := gL zl 0
    go_simp
    clear q25
    refine hK _ _ (tP hs hd zl ?_)
    clear hK K hs hd zl
    intro a hs hd zl
    refine tail_op rfl (fun K hK => ?_)
    have q26 := gL zl 0
    go_simp
    clear q26
    refine hK _ _ (tP hs hd zl ?_)
    clear hK K hs hd zl
    intro a hs hd zl
    refine wp_cond_false (vL zl 0) ?_
    refine wp_skip ?_
    refine wp_seq ?_
    refine wp_seq ?_
    refine wp_region_list ?_
    show wpList _ _ _ [_, _, _, _] _ _
    refine tail_op rfl (fun K hK => ?_)
    have q1 := gL zl 16
    go_simp
    clear q1
    refine hK _ _ (tP hs hd zl ?_)
    clear hK K hs hd zl
    intro a hs hd zl
    refine tail_op rfl (fun K hK => ?_)
    have q29 := gL zl 0
    have s29 := vL zl 0
    refine op_load_part 91 (.tmp 29) rfl g 6 s29 _ _ #[H.bh.v, .int .u32 H.bt, H.bp.v] _ hg (show (6 + 3 : Nat) ≤ 18 by decide) rfl rfl (by kernel_rfl) rfl ?_
    clear q29
    refine hK _ _ (tP hs hd zl ?_)
    clear hK K hs hd zl s29
    intro a hs hd zl
    refine tail_op rfl (fun K hK => ?_)
    have q30 := gL zl 0
    unfold HSl.v at q30
    go_simp
    refine (c_bidV H.bt H.bh.A H.bp.A H.bh.c H.bp.c H.bh.l H.bp.l _ hz.bh hz.bp).mono ?_
    rintro e w4 ⟨rfl, hb2⟩
    clear q30
    refine hK _ _ (tP hs hd zl ?_)
    clear hK K hs hd zl
    intro a hs hd zl
    replace hB := bz_then hB hb2
    replace hg := hg.after hb2
    clear hb2 c0 c2 c3
    refine tail_op rfl (fun K hK => ?_)
    have q31 := gL zl 0
    go_simp
    clear q31
    refine hK _ _ (tP hs hd zl ?_)
    clear hK K hs hd zl
    intro a hs hd zl
    refine wp_seq ?_
    refine wp_region_list ?_
    show wpList _ _ _ [_, _] _ _
    refine tail_op rfl (fun K hK => ?_)
    have q3 := gL zl 0
    go_simp
    clear q3
    refine hK _ _ (tP hs hd zl ?_)
    clear hK K hs hd zl
    intro a hs hd zl
    refine tail_op rfl (fun K hK => ?_)
    have q32 := gL zl 0
    go_simp
    clear q32
    refine hK _ _ (tP hs hd zl ?_)
    clear hK K hs hd zl
    intro a hs hd zl
    refine wp_cond_false (vL zl 0) ?_
    refine wp_skip ?_
    refine wp_seq ?_
    refine wp_seq ?_
    have cc : w4.cell? ⟨g, 9, none⟩ = some (.slice (H.hh 0).A (H.hh 0).l.length (H.hh 0).c) := by rw [hg.cell]; rfl
    refine wp_region_list ?_
    show wpList _ _ _ [_, _, _, _] _ _
    refine tail_op rfl (fun K hK => ?_)
    have q1 := gL zl 22
    go_simp
    clear q1
    refine hK _ _ (tP hs hd zl ?_)
    clear hK K hs hd zl
    intro a hs hd zl
    refine tail_op rfl (fun K hK => ?_)
    have q35 := gL zl 0
    go_simp
    clear q35
    refine hK _ _ (tP hs hd zl ?_)
    clear hK K hs hd zl
    intro a hs hd zl
    refine tail_op rfl (fun K hK => ?_)
    have q36 := gL zl 0
    go_simp
    refine (c_vHash (H.hh 0).A (H.hh 0).c (H.hh 0).l _ (hz.hh 0 (by decide))).mono ?_
    rintro e w3 ⟨rfl, hw3⟩
    obtain rfl := hw3.symm
    clear q36
    refine hK _ _ (tP hs hd zl ?_)
    clear hK K hs hd zl
    intro a hs hd zl
    refine tail_op rfl (fun K hK => ?_)
    have q37 := gL zl 0
    go_simp
    clear q37
    refine hK _ _ (tP hs hd zl ?_)
    clear hK K hs hd zl
    intro a hs hd zl
    clear cc
    refine wp_seq ?_
    refine wp_region_list ?_
    show wpList _ _ _ [_, _] _ _
    refine tail_op rfl (fun K hK => ?_)
    have q4 := gL zl 0
    go_simp
    clear q4
    refine hK _ _ (tP hs hd zl ?_)
    clear hK K hs hd zl
    intro a hs hd zl
    refine tail_op rfl (fun K hK => ?_)
    have q38 := gL zl 0
    go_simp
    clear q38
    refine hK _ _ (tP hs hd zl ?_)
    clear hK K hs hd zl
    intro a hs hd zl
    refine wp_cond_false (vL zl 0) ?_
    refine wp_skip ?_
    refine wp_seq ?_
    refine wp_seq ?_
    have cc : w4.cell? ⟨g, 10, none⟩ = some (.slice (H.hh 1).A (H.hh 1).l.length (H.hh 1).c) := by rw [hg.cell]; rfl
    refine wp_region_list ?_
    show wpList _ _ _ [_, _, _, _] _ _
    refine tail_op rfl (fun K hK => ?_)
    have q1 := gL zl 28
    go_simp
    clear q1
    refine hK _ _ (tP hs hd zl ?_)
    clear hK K hs hd zl
    intro a hs hd zl
    refine tail_op rfl (fun K hK => ?_)
    have q41 := gL zl 0
    go_simp
    clear q41
    refine hK _ _ (tP hs hd zl ?_)
    clear hK K hs hd zl
    intro a hs hd zl
    refine tail_op rfl (fun K hK => ?_)
    have q42 := gL zl 0
    go_simp
    refine (c_vHash (H.hh 1).A (H.hh 1).c (H.hh 1).l _ (hz.hh 1 (by decide))).mono ?_
    rintro e w3 ⟨rfl, hw3⟩
    obtain rfl := hw3.symm
    clear q42
    refine hK _ _ (tP hs hd zl ?_)
    clear hK K hs hd zl
    intro a hs hd zl
    refine tail_op rfl (fun K hK => ?_)
    have q43 := gL zl 0
    go_simp
    clear q43
    refine hK _ _ (tP hs hd zl ?_)
    clear hK K hs hd zl
    intro a hs hd zl
    clear cc
    refine wp_seq ?_
    refine wp_region_list ?_
    show wpList _ _ _ [_, _] _ _
    refine tail_op rfl (fun K hK => ?_)
    have q5 := gL zl 0
    go_simp
    clear q5
    refine hK _ _ (tP hs hd zl ?_)
    clear hK K hs hd zl
    intro a hs hd zl
    refine tail_op rfl (fun K hK => ?_)
    have q44 := gL zl 0
    go_simp
    clear q44
    refine hK _ _ (tP hs hd zl ?_)
    clear hK K hs hd zl
    intro a hs hd zl
    refine wp_cond_false (vL zl 0) ?_
    refine wp_skip ?_
    refine wp_seq ?_
    refine wp_seq ?_
    have cc : w4.cell? ⟨g, 16, none⟩ = some (.slice (H.hh 7).A (H.hh 7).l.length (H.hh 7).c) := by rw [hg.cell]; rfl
    refine wp_region_list ?_
    show wpList _ _ _ [_, _, _, _] _ _
    refine tail_op rfl (fun K hK => ?_)
    have q1 := gL zl 34
    go_simp
    clear q1
    refine hK _ _ (tP hs hd zl ?_)
    clear hK K hs hd zl
    intro a hs hd zl
    refine tail_op rfl (fun K hK => ?_)
    have q47 := gL zl 0
    go_simp
    clear q47
    refine hK _ _ (tP hs hd zl ?_)
    clear hK K hs hd zl
    intro a hs hd zl
    refine tail_op rfl (fun K hK => ?_)
    have q48 := gL zl 0
    go_simp
    refine (c_vHash (H.hh 7).A (H.hh 7).c (H.hh 7).l _ (hz.hh 7 (by decide))).mono ?_
    rintro e w3 ⟨rfl, hw3⟩
    obtain rfl := hw3.symm
    clear q48
    refine hK _ _ (tP hs hd zl ?_)
    clear hK K hs hd zl
    intro a hs hd zl
    refine tail_op rfl (fun K hK => ?_)
    have q49 := gL zl 0
    go_simp
    clear q49
    refine hK _ _ (tP hs hd zl ?_)
    clear hK K hs hd zl
    intro a hs hd zl
    clear cc
    refine wp_seq ?_
    refine wp_region_list ?_
    show wpList _ _ _ [_, _] _ _
    refine tail_op rfl (fun K hK => ?_)
    have q6 := gL zl 0
    go_simp
    clear q6
    refine hK _ _ (tP hs hd zl ?_)
    clear hK K hs hd zl
    intro a hs hd zl
    refine tail_op rfl (fun K hK => ?_)
    have q50 := gL zl 0
    go_simp
    clear q50
    refine hK _ _ (tP hs hd zl ?_)
    clear hK K hs hd zl
    intro a hs hd zl
    refine wp_cond_false (vL zl 0) ?_
    refine wp_skip ?_
    refine wp_seq ?_
    refine wp_seq ?_
    have cc : w4.cell? ⟨g, 17, none⟩ = some (.slice (ps).A (ps).l.length (ps).c) := by rw [hg.cell]; rfl
    refine wp_region_list ?_
    show wpList _ _ _ [_, _, _, _] _ _
    refine tail_op rfl (fun K hK => ?_)
    have q1 := gL zl 40
    go_simp
    clear q1
    refine hK _ _ (tP hs hd zl ?_)
    clear hK K hs hd zl
    intro a hs hd zl
    refine tail_op rfl (fun K hK => ?_)
    have q53 := gL zl 0
    go_simp
    clear q53
    refine hK _ _ (tP hs hd zl ?_)
    clear hK K hs hd zl
    intro a hs hd zl
    refine tail_op rfl (fun K hK => ?_)
    have q54 := gL zl 0
    go_simp
    clear q54
    refine hK _ _ (tP hs hd zl ?_)
    clear hK K hs hd zl
    intro a hs hd zl
    refine tail_op rfl (fun K hK => ?_)
    have q55 := gL zl 0
    go_simp
    clear q55
    refine hK _ _ (tP hs hd zl ?_)
    clear hK K hs hd zl
    intro a hs hd zl
    clear cc
    refine wp_cond_true (vL zl 0) ?_
    refine wp_seq ?_
    refine wp_region_list ?_
    show wpList _ _ _ [_, _] _ _
    refine tail_op rfl (fun K hK => ?_)
    go_simp
    refine (c_errNew _ _).mono ?_
    rintro e w5 ⟨ad, rfl, hb2⟩
    refine hK _ _ ?_
    clear hK K
    obtain ⟨s56, -, -, -, -, -, -, -, -, -, -, -, -, -, -, -, -, -, -, -, -, -, -, -, -, -, -, -, -, -, -, -, -, -, -, -, -, -, -, -, -, -, s2, -, s1, -⟩ := zl
    refine act_put (d := 57) _ hs hd (by decide) [(1, _), (2, _), (56, _)] ⟨s1, s2, s56, trivial⟩ rfl ?_
    clear hs hd s1 s2 s56
    intro a hs hd zl
    replace hB := bz_then hB hb2
    clear hb2
    refine tail_op rfl (fun K hK => ?_)
    have q57 := gL zl 0
    go_simp
    clear q57
    refine hK _ _ ?_
    clear hK K
    obtain ⟨s57, s1, s2, s56, -⟩ := zl
    refine act_put (d := 2) _ hs hd (by decide) [(1, _), (56, _), (57, _)] ⟨s1, s56, s57, trivial⟩ rfl ?_
    clear hs hd s1 s2 s56 s57
    intro a hs hd zl
    refine wp_ret ?_
    repeat first | refine then_ret ?_ | refine inBlock_ret ?_
    exact end_tmp rfl hd (vL zl 0) (ErrIf.no (by simp [formedB, h3]) hB)
  ·have e1' : (H.vb != 11) = false := by rw [h1]; rfl
   have e2 : decide (50 < H.ch.size) = true := decide_eq_true (by omega)
   have e2' : decide ((50 : Int) < (H.ch.size : Int)) = true := decide_eq_true (by omega)
   refine wp_seq ?_
   refine wp_seq ?_
   refine wp_region_list ?_
   show wpList _ _ _ [_, _, _, _] _ _
   refine tail_op rfl (fun K hK => ?_)
   have q1 := gL zl 2
   go_simp
   clear q1
   refine hK _ _ (tP hs hd zl ?_)
   clear hK K hs hd zl
   intro a hs hd zl
   refine tail_op rfl (fun K hK => ?_)
   have q11 := gL zl 0
   go_simp
   clear q11
   refine hK _ _ (tP hs hd zl ?_)
   clear hK K hs hd zl
   intro a hs hd zl
   refine tail_op rfl (fun K hK => ?_)
   have q12 := gL zl 0
   go_simp
   clear q12
   refine hK _ _ (tP hs hd zl ?_)
   clear hK K hs hd zl
   intro a hs hd zl
   refine tail_op rfl (fun K hK => ?_)
   have q13 := gL zl 0
   go_simp
   clear q13
   refine hK _ _ (tP hs hd zl ?_)
   clear hK K hs hd zl
   intro a hs hd zl
   refine wp_cond_false (vL zl 0) ?_
   refine wp_skip ?_
   refine wp_seq ?_
   refine wp_seq ?_
   refine wp_region_list ?_
   show wpList _ _ _ [_, _, _, _] _ _
   refine tail_op rfl (fun K hK => ?_)
   have q1 := gL zl 6
   go_simp
   clear q1
   refine hK _ _ (tP hs hd zl ?_)
   clear hK K hs hd zl
   intro a hs hd zl
   refine tail_op rfl (fun K hK => ?_)
   have q16 := gL zl 0
   go_simp
   clear q16
   refine hK _ _ (tP hs hd zl ?_)
   clear hK K hs hd zl
   intro a hs hd zl
   refine tail_op rfl (fun K hK => ?_)
   have q17 := gL zl 0
   go_simp
   clear q17
   refine hK _ _ (tP hs hd zl ?_)
   clear hK K hs hd zl
   intro a hs hd zl
   refine tail_op rfl (fun K hK => ?_)
   have q18 := gL zl 0
   go_simp
   clear q18
   refine hK _ _ (tP hs hd zl ?_)
   clear hK K hs hd zl
   intro a hs hd zl
   refine wp_cond_true (vL zl 0) ?_
   refine wp_seq ?_
   refine wp_region_list ?_
   show wpList _ _ _ [_, _] _ _
   refine tail_op rfl (fun K hK => ?_)
   go_simp
   refine (c_errNew _ _).mono ?_
   rintro e w5 ⟨ad, rfl, hb2⟩
   refine hK _ _ (tP hs hd zl ?_)
   clear hK K hs hd zl
   intro a hs hd zl
   replace hB := bz_then hB hb2
   clear hb2
   refine tail_op rfl (fun K hK => ?_)
   have q20 := gL zl 0
   go_simp
   clear q20
   refine hK _ _ ?_
   clear hK K
   obtain ⟨s20, s19, -, -, -, -, -, -, -, s2, -, s1, -⟩ := zl
   refine act_put (d := 2) _ hs hd (by decide) [(1, _), (19, _), (20, _)] ⟨s1, s19, s20, trivial⟩ rfl ?_
   clear hs hd s1 s2 s19 s20
   intro a hs hd zl
   refine wp_ret ?_
   repeat first | refine then_ret ?_ | refine inBlock_ret ?_
   exact end_tmp rfl hd (vL zl 0) (ErrIf.no (by simp [formedB, h2]) hB)
 ·have e1' : (H.vb != 11) = true := by rw [bne_iff_ne]; exact h1
  refine wp_seq ?_
  refine wp_seq ?_
  refine wp_region_list ?_
  show wpList _ _ _ [_, _, _, _] _ _
  refine tail_op rfl (fun K hK => ?_)
  have q1 := gL zl 2
  go_simp
  clear q1
  refine hK _ _ (tP hs hd zl ?_)
  clear hK K hs hd zl
  intro a hs hd zl
  refine tail_op rfl (fun K hK => ?_)
  have q11 := gL zl 0
  go_simp
  clear q11
  refine hK _ _ (tP hs hd zl ?_)
  clear hK K hs hd zl
  intro a hs hd zl
  refine tail_op rfl (fun K hK => ?_)
  have q12 := gL zl 0
  go_simp
  clear q12
  refine hK _ _ (tP hs hd zl ?_)
  clear hK K hs hd zl
  intro a hs hd zl
  refine tail_op rfl (fun K hK => ?_)
  have q13 := gL zl 0
  go_simp
  clear q13
  refine hK _ _ (tP hs hd zl ?_)
  clear hK K hs hd zl
  intro a hs hd zl
  refine wp_cond_true (vL zl 0) ?_
  refine wp_seq ?_
  refine wp_region_list ?_
  show wpList _ _ _ [_, _] _ _
  refine tail_op rfl (fun K hK => ?_)
  go_simp
  refine (c_errNew _ _).mono ?_
  rintro e w5 ⟨ad, rfl, hb2⟩
  refine hK _ _ (tP hs hd zl ?_)
  clear hK K hs hd zl
  intro a hs hd zl
  replace hB := bz_then hB hb2
  clear hb2
  refine tail_op rfl (fun K hK => ?_)
  have q15 := gL zl 0
  go_simp
  clear q15
  refine hK _ _ ?_
  clear hK K
  obtain ⟨s15, s14, -, -, -, s2, -, s1, -⟩ := zl
  refine act_put (d := 2) _ hs hd (by decide) [(1, _), (14, _), (15, _)] ⟨s1, s14, s15, trivial⟩ rfl ?_
  clear hs hd s1 s2 s14 s15
  intro a hs hd zl
  refine wp_ret ?_
  repeat first | refine then_ret ?_ | refine inBlock_ret ?_
  exact end_tmp rfl hd (vL zl 0) (ErrIf.no (by simp [formedB, h1]) hB)
end Go.Proofs.YtcmllcmcbamlbaaDoor
