/- Backwards: the package's answer, the reference's. (Printed by gen_back.py.) Backwards: the thin package's answer, the reference's. (Printed by gen_back2.py.) What 'set' asks of two seats; sizes. Sizes. (Printed by gen_fits.py.) slices.IndexFunc, ContainsFunc over seats. (Printed by gen_idx.py.) -/
import Derived.Test.YtcmllcmcbamlbaaDoorM11
import Derived.Test.YtcmllcmcbamlbaaDoorM9
import Derived.Test.YtcmllcmcbamlbaaDoorM10
set_option linter.unusedVariables false
set_option linter.unusedSimpArgs false
namespace Go.Proofs.YtcmllcmcbamlbaaDoor
open Go.RowKit
/-- Whether a header is taken as the one ahead of another one. -/
def backB (H J : Hd) : Bool := formedB H && eqB H.ch J.ch && laterB J.sec J.ns H.sec H.ns && decide (rootN 20 H.leaves = J.bh.l)
theorem laterB_add (s n s' n' c : Int) : laterB (s + c) n (s' + c) n' = laterB s n s' n' := by
 unfold laterB
 have e1 : decide (s' + c < s + c) = decide (s' < s) := by by_cases h : s' < s <;> simp [h]
 have e2 : decide (s + c = s' + c) = decide (s = s') := by by_cases h : s = s' <;> simp [h]
 rw [e1, e2]
theorem ErrIf.val {ok : Bool} {w w' : World} {e : Ending} (h : ErrIf ok w e w') : ∃ v, e = .returned v ∧ (ok = true ∧ v = .nilIface ∨ ok = false ∧ ∃ a : Addr, v = .iface 102 (.pointer (some a))) ∧ Below w.heap.size w w' := by
 rcases h.1 with ⟨h1, h2⟩ | ⟨h1, a, h2⟩
 ·exact ⟨_, h2, .inl ⟨h1, rfl⟩, h.2⟩
 ·exact ⟨_, h2, .inr ⟨h1, a, rfl⟩, h.2⟩
/-- nil, or an error that isn't nil. -/
def NilIf (ok : Bool) (w : World) (e : Ending) (w' : World) : Prop :=
 (ok = true ∧ e = .returned .nilIface ∨ ok = false ∧ ∃ a : Addr, e = .returned (.iface 81 (.agg #[.iface 102 (.pointer (some a))]))) ∧ Below w.heap.size w w'
theorem NilIf.val {ok : Bool} {w w' : World} {e : Ending} (h : NilIf ok w e w') : ∃ v, e = .returned v ∧ (ok = true ∧ v = .nilIface ∨ ok = false ∧ ∃ a : Addr, v = .iface 81 (.agg #[.iface 102 (.pointer (some a))])) ∧ Below w.heap.size w w' := by
 rcases h.1 with ⟨h1, h2⟩ | ⟨h1, a, h2⟩
 ·exact ⟨_, h2, .inl ⟨h1, rfl⟩, h.2⟩
 ·exact ⟨_, h2, .inr ⟨h1, a, rfl⟩, h.2⟩

set_option maxHeartbeats 4000000 in
set_option maxRecDepth 100000 in
theorem c_VBack (H J : Hd) (ps qs : HSl) (g j : Nat) (w : World) (hn : H.num) (hm : J.num) (hg : Blk w g 93 (H.pcells ps)) (hj : Blk w j 93 (J.pcells qs)) (hk : H.ok w) (hl : J.ok w) (hps : ps.ok w) (hpl : Is ps.l (bytesOf H.pr)) (hht : 0 < H.ht) (hz : H.sized) (hne : (((H.hh 2).l.length : Int) == 0) = false) (hKt : KTab w 0) (h0 : 0 < w.heap.size) :
  Calls Tryd.prog 27 #[.pointer (some ⟨g, 0, none⟩), .pointer (some ⟨j, 0, none⟩)] w fun e w' => NilIf (backB H J) w e w' := by
 suffices h : ∀ w0, (Blk w0 g 93 (H.pcells ps)) → (Blk w0 j 93 (J.pcells qs)) → (H.ok w0) → (J.ok w0) → (ps.ok w0) → (KTab w0 0) → (0 < w0.heap.size) → Below w0.heap.size w0 w → Calls Tryd.prog 27 #[.pointer (some ⟨g, 0, none⟩), .pointer (some ⟨j, 0, none⟩)] w fun e w' => NilIf (backB H J) w0 e w' from h w hg hj hk hl hps hKt h0 (bz_refl w)
 clear hg hj hk hl hps hKt h0
 intro w0 hg hj hk hl hps hKt h0 hB
 refine enter_abs Tryd.func27 rfl 52 rfl (by simp) ?_
 intro a hs hd hargs
 have s0 := hargs 0 _ rfl
 have s1 := hargs 1 _ rfl
 clear hargs
 refine wp_seq ?_
 refine wp_region_list ?_
 show wpList _ _ _ [_] _ _
 refine tail_op rfl (fun K hK => ?_)
 go_simp
 refine hK _ _ ?_
 clear hK K
 refine act_put (d := 4) _ hs hd (by decide) [(0, _), (1, _)] ⟨s0, s1, trivial⟩ rfl ?_
 clear hs hd s0 s1
 intro a hs hd zl
 have hpz : ps.l.length = H.pr.size := by rw [hpl.out, bytesOf_length]
 refine wp_seq ?_
 refine wp_seq ?_
 refine wp_region_list ?_
 show wpList _ _ _ [_, _, _, _, _] _ _
 refine tail_op rfl (fun K hK => ?_)
 have q0 := gL zl 1
 go_simp
 clear q0
 refine hK _ _ (tP hs hd zl ?_)
 clear hK K hs hd zl
 intro a hs hd zl
 refine tail_op rfl (fun K hK => ?_)
 have q6 := gL zl 0
 go_simp
 clear q6
 refine hK _ _ (tP hs hd zl ?_)
 clear hK K hs hd zl
 intro a hs hd zl
 refine tail_op rfl (fun K hK => ?_)
 have q7 := gL zl 0
 have s7 := vL zl 0
 refine op_load_row 93 (.tmp 7) rfl g s7 _ _ _ (hg.after hB) rfl rfl (by kernel_rfl) ?_
 clear q7
 refine hK _ _ (tP hs hd zl ?_)
 clear hK K hs hd zl s7
 intro a hs hd zl
 refine tail_op rfl (fun K hK => ?_)
 have q8 := gL zl 0
 go_simp
 refine (c_HValid H ps _ hht hz hpz).mono ?_
 intro e w3 h
 obtain ⟨v9, rfl, hv9, hb2⟩ := h.val
 clear q8
 refine hK _ _ (tP hs hd zl ?_)
 clear hK K hs hd zl
 intro a hs hd zl
 replace hB := bz_then hB hb2
 clear hb2
 refine tail_op rfl (fun K hK => ?_)
 have q9 := gL zl 0
 go_simp
 clear q9
 refine hK _ _ (tP hs hd zl ?_)
 clear hK K hs hd zl
 intro a hs hd zl
 rcases hv9 with ⟨hf, rfl⟩ | ⟨hf, ad, rfl⟩
 ·by_cases h1 : eqB H.ch J.ch = true
  ·have h1' : (H.ch.toList == J.ch.toList) = true := h1
   have h1'' : (H.ch.toList != J.ch.toList) = false := by rw [bne, h1']; rfl
   obtain ⟨lb, hlb⟩ : ∃ b, Is (laterB J.sec J.ns H.sec H.ns) b := is_self _
   cases lb
   ·refine wp_seq ?_
    refine wp_region_list ?_
    show wpList _ _ _ [_, _] _ _
    refine tail_op rfl (fun K hK => ?_)
    have q5 := gL zl 0
    go_simp
    clear q5
    refine hK _ _ (tP hs hd zl ?_)
    clear hK K hs hd zl
    intro a hs hd zl
    refine tail_op rfl (fun K hK => ?_)
    have q10 := gL zl 0
    go_simp
    clear q10
    refine hK _ _ (tP hs hd zl ?_)
    clear hK K hs hd zl
    intro a hs hd zl
    refine wp_cond_false (vL zl 0) ?_
    refine wp_skip ?_
    refine wp_seq ?_
    refine wp_seq ?_
    have c2 : w3.cell? ⟨g, 2, none⟩ = some (.string H.ch) := by rw [(hg.after hB).cell]; rfl
    have d2 : w3.cell? ⟨j, 2, none⟩ = some (.string J.ch) := by rw [(hj.after hB).cell]; rfl
    refine fl2 [.eq 15 _, .eq 16 _, .eq 17 _, .eq 18 _, .eq 19 _, .eq 20 _, .eq 21 _, .eq 22 _] 8 hs hd zl
     ⟨(stp rfl fun a u hb hs hl hd K hK => by have s0 := gL hl 8; clear hd; go_simp; exact kE hK hs),
      (stp rfl fun a u hb hs hl hd K hK => by have s15 := gD hd 0; clear hd; go_simp; exact kE hK hs),
      (stp rfl fun a u hb hs hl hd K hK => by have s16 := gD hd 1; clear hd; go_simp; exact kE hK hs),
      (stp rfl fun a u hb hs hl hd K hK => by have s17 := gD hd 2; have c2 := cell_up hb c2; have d2 := cell_up hb d2; clear hd; go_simp; exact kE hK hs),
      (stp rfl fun a u hb hs hl hd K hK => by have s1 := gL hl 9; clear hd; go_simp; exact kE hK hs),
      (stp rfl fun a u hb hs hl hd K hK => by have s19 := gD hd 4; clear hd; go_simp; exact kE hK hs),
      (stp rfl fun a u hb hs hl hd K hK => by have s20 := gD hd 5; clear hd; go_simp; exact kE hK hs),
      (stp rfl fun a u hb hs hl hd K hK => by have s21 := gD hd 6; have c2 := cell_up hb c2; have d2 := cell_up hb d2; clear hd; go_simp; exact kE hK hs),
      trivial⟩ ?_
    clear hs hd zl
    intro a w hb hs hd zl hh
    replace zl := lH hh 3 zl
    replace zl := lH hh 7 zl
    clear hh
    replace c2 := cell_up hb c2
    replace d2 := cell_up hb d2
    replace hB := bz_then hB hb
    clear hb
    show wpList _ _ _ [_] _ _
    refine tail_op rfl (fun K hK => ?_)
    have q18 := gL zl 1
    have q22 := gL zl 0
    go_simp
    clear q18 q22
    refine hK _ _ (tP hs hd zl ?_)
    clear hK K hs hd zl
    intro a hs hd zl
    clear c2 d2
    refine wp_cond_false (vL zl 0) ?_
    refine wp_skip ?_
    refine wp_seq ?_
    refine wp_seq ?_
    refine fl2 [.eq 27 _, .eq 28 _, .eq 29 _, .eq 30 (.agg #[.int .i64 (H.sec + 62135596800), .int .i32 H.ns]), .eq 31 _, .eq 32 _, .eq 33 _, .eq 34 (.agg #[.int .i64 (J.sec + 62135596800), .int .i32 J.ns]), .eq 35 (.bool false)] 9 hs hd zl
     ⟨(stp rfl fun a u hb hs hl hd K hK => by have s0 := gL hl 11; clear hd; go_simp; exact kE hK hs),
      (stp rfl fun a u hb hs hl hd K hK => by have s27 := gD hd 0; clear hd; go_simp; exact kE hK hs),
      (stp rfl fun a u hb hs hl hd K hK => by have s28 := gD hd 1; clear hd; go_simp; exact kE hK hs),
      (stp rfl fun a u hb hs hl hd K hK => by
       have s29 := gD hd 2
       clear hd
       refine op_load_part 86 (.tmp 29) rfl g 4 (gu s29) _ _ #[.int .i64 (H.sec + 62135596800), .int .i32 H.ns] _ ((hg.after hB).after hb) (show (4 + 2 : Nat) ≤ 18 by decide) rfl rfl (by kernel_rfl) rfl ?_
       exact kE hK hs),
      (stp rfl fun a u hb hs hl hd K hK => by have s1 := gL hl 12; clear hd; go_simp; exact kE hK hs),
      (stp rfl fun a u hb hs hl hd K hK => by have s31 := gD hd 4; clear hd; go_simp; exact kE hK hs),
      (stp rfl fun a u hb hs hl hd K hK => by have s32 := gD hd 5; clear hd; go_simp; exact kE hK hs),
      (stp rfl fun a u hb hs hl hd K hK => by
       have s33 := gD hd 6
       clear hd
       refine op_load_part 86 (.tmp 33) rfl j 4 (gu s33) _ _ #[.int .i64 (J.sec + 62135596800), .int .i32 J.ns] _ ((hj.after hB).after hb) (show (4 + 2 : Nat) ≤ 18 by decide) rfl rfl (by kernel_rfl) rfl ?_
       exact kE hK hs),
      (stp rfl fun a u hb hs hl hd K hK => by
       have s30 := gD hd 3
       have s34 := gD hd 7
       clear hd
       go_simp
       refine (c_Before _ _ _ _ _).mono ?_
       rintro e w5 ⟨rfl, hb2⟩
       rw [laterB_add, hlb.out]
       exact hK _ _ hb2 (eq_put hs (by decide))),
      trivial⟩ ?_
    clear hs hd zl
    intro a w hb hs hd zl hh
    replace zl := lH hh 8 zl
    clear hh
    replace hB := bz_then hB hb
    clear hb
    show wpList _ _ _ [_] _ _
    refine tail_op rfl (fun K hK => ?_)
    have q35 := gL zl 0
    go_simp
    clear q35
    refine hK _ _ (tP hs hd zl ?_)
    clear hK K hs hd zl
    intro a hs hd zl
    refine wp_cond_true (vL zl 0) ?_
    refine wp_seq ?_
    refine wp_region_list ?_
    show wpList _ _ _ [_, _, _, _] _ _
    refine tail_op rfl (fun K hK => ?_)
    go_simp
    refine (c_errNew _ _).mono ?_
    rintro e w5 ⟨ad, rfl, hb2⟩
    refine hK _ _ (tP hs hd zl ?_)
    clear hK K hs hd zl
    intro a hs hd zl
    replace hB := bz_then hB hb2
    clear hb2
    refine tail_op rfl (fun K hK => ?_)
    have q37 := gL zl 0
    go_simp
    clear q37
    refine hK _ _ (tP hs hd zl ?_)
    clear hK K hs hd zl
    intro a hs hd zl
    refine tail_op rfl (fun K hK => ?_)
    have q38 := gL zl 0
    go_simp
    clear q38
    refine hK _ _ (tP hs hd zl ?_)
    clear hK K hs hd zl
    intro a hs hd zl
    refine tail_op rfl (fun K hK => ?_)
    have q39 := gL zl 0
    go_simp
    clear q39
    refine hK _ _ ?_
    clear hK K
    obtain ⟨s39, s38, s37, s36, -, -, -, -, -, -, -, -, -, -, -, s4, s0, s1, -⟩ := zl
    refine act_put (d := 4) _ hs hd (by decide) [(0, _), (1, _), (36, _), (37, _), (38, _), (39, _)] ⟨s0, s1, s36, s37, s38, s39, trivial⟩ rfl ?_
    clear hs hd s0 s1 s4 s36 s37 s38 s39
    intro a hs hd zl
    refine wp_ret ?_
    repeat first | refine then_ret ?_ | refine inBlock_ret ?_
    exact end_tmp rfl hd (vL zl 0) ⟨.inr ⟨by simp [backB, hlb.out], _, rfl⟩, hB⟩
   obtain ⟨rb, hrb⟩ : ∃ b, Is (decide (rootN 20 H.leaves = J.bh.l)) b := is_self _
   cases rb
   ·refine wp_seq ?_
    refine wp_region_list ?_
    show wpList _ _ _ [_, _] _ _
    refine tail_op rfl (fun K hK => ?_)
    have q5 := gL zl 0
    go_simp
    clear q5
    refine hK _ _ (tP hs hd zl ?_)
    clear hK K hs hd zl
    intro a hs hd zl
    refine tail_op rfl (fun K hK => ?_)
    have q10 := gL zl 0
    go_simp
    clear q10
    refine hK _ _ (tP hs hd zl ?_)
    clear hK K hs hd zl
    intro a hs hd zl
    refine wp_cond_false (vL zl 0) ?_
    refine wp_skip ?_
    refine wp_seq ?_
    refine wp_seq ?_
    have c2 : w3.cell? ⟨g, 2, none⟩ = some (.string H.ch) := by rw [(hg.after hB).cell]; rfl
    have d2 : w3.cell? ⟨j, 2, none⟩ = some (.string J.ch) := by rw [(hj.after hB).cell]; rfl
    refine fl2 [.eq 15 _, .eq 16 _, .eq 17 _, .eq 18 _, .eq 19 _, .eq 20 _, .eq 21 _, .eq 22 _] 8 hs hd zl
     ⟨(stp rfl fun a u hb hs hl hd K hK => by have s0 := gL hl 8; clear hd; go_simp; exact kE hK hs),
      (stp rfl fun a u hb hs hl hd K hK => by have s15 := gD hd 0; clear hd; go_simp; exact kE hK hs),
      (stp rfl fun a u hb hs hl hd K hK => by have s16 := gD hd 1; clear hd; go_simp; exact kE hK hs),
      (stp rfl fun a u hb hs hl hd K hK => by have s17 := gD hd 2; have c2 := cell_up hb c2; have d2 := cell_up hb d2; clear hd; go_simp; exact kE hK hs),
      (stp rfl fun a u hb hs hl hd K hK => by have s1 := gL hl 9; clear hd; go_simp; exact kE hK hs),
      (stp rfl fun a u hb hs hl hd K hK => by have s19 := gD hd 4; clear hd; go_simp; exact kE hK hs),
      (stp rfl fun a u hb hs hl hd K hK => by have s20 := gD hd 5; clear hd; go_simp; exact kE hK hs),
      (stp rfl fun a u hb hs hl hd K hK => by have s21 := gD hd 6; have c2 := cell_up hb c2; have d2 := cell_up hb d2; clear hd; go_simp; exact kE hK hs),
      trivial⟩ ?_
    clear hs hd zl
    intro a w hb hs hd zl hh
    replace zl := lH hh 3 zl
    replace zl := lH hh 7 zl
    clear hh
    replace c2 := cell_up hb c2
    replace d2 := cell_up hb d2
    replace hB := bz_then hB hb
    clear hb
    show wpList _ _ _ [_] _ _
    refine tail_op rfl (fun K hK => ?_)
    have q18 := gL zl 1
    have q22 := gL zl 0
    go_simp
    clear q18 q22
    refine hK _ _ (tP hs hd zl ?_)
    clear hK K hs hd zl
    intro a hs hd zl
    clear c2 d2
    refine wp_cond_false (vL zl 0) ?_
    refine wp_skip ?_
    refine wp_seq ?_
    refine wp_seq ?_
    refine fl2 [.eq 27 _, .eq 28 _, .eq 29 _, .eq 30 (.agg #[.int .i64 (H.sec + 62135596800), .int .i32 H.ns]), .eq 31 _, .eq 32 _, .eq 33 _, .eq 34 (.agg #[.int .i64 (J.sec + 62135596800), .int .i32 J.ns]), .eq 35 (.bool true)] 9 hs hd zl
     ⟨(stp rfl fun a u hb hs hl hd K hK => by have s0 := gL hl 11; clear hd; go_simp; exact kE hK hs),
      (stp rfl fun a u hb hs hl hd K hK => by have s27 := gD hd 0; clear hd; go_simp; exact kE hK hs),
      (stp rfl fun a u hb hs hl hd K hK => by have s28 := gD hd 1; clear hd; go_simp; exact kE hK hs),
      (stp rfl fun a u hb hs hl hd K hK => by
       have s29 := gD hd 2
       clear hd
       refine op_load_part 86 (.tmp 29) rfl g 4 (gu s29) _ _ #[.int .i64 (H.sec + 62135596800), .int .i32 H.ns] _ ((hg.after hB).after hb) (show (4 + 2 : Nat) ≤ 18 by decide) rfl rfl (by kernel_rfl) rfl ?_
       exact kE hK hs),
      (stp rfl fun a u hb hs hl hd K hK => by have s1 := gL hl 12; clear hd; go_simp; exact kE hK hs),
      (stp rfl fun a u hb hs hl hd K hK => by have s31 := gD hd 4; clear hd; go_simp; exact kE hK hs),
      (stp rfl fun a u hb hs hl hd K hK => by have s32 := gD hd 5; clear hd; go_simp; exact kE hK hs),
      (stp rfl fun a u hb hs hl hd K hK => by
       have s33 := gD hd 6
       clear hd
       refine op_load_part 86 (.tmp 33) rfl j 4 (gu s33) _ _ #[.int .i64 (J.sec + 62135596800), .int .i32 J.ns] _ ((hj.after hB).after hb) (show (4 + 2 : Nat) ≤ 18 by decide) rfl rfl (by kernel_rfl) rfl ?_
       exact kE hK hs),
      (stp rfl fun a u hb hs hl hd K hK => by
       have s30 := gD hd 3
       have s34 := gD hd 7
       clear hd
       go_simp
       refine (c_Before _ _ _ _ _).mono ?_
       rintro e w5 ⟨rfl, hb2⟩
       rw [laterB_add, hlb.out]
       exact hK _ _ hb2 (eq_put hs (by decide))),
      trivial⟩ ?_
    clear hs hd zl
    intro a w hb hs hd zl hh
    replace zl := lH hh 8 zl
    clear hh
    replace hB := bz_then hB hb
    clear hb
    show wpList _ _ _ [_] _ _
    refine tail_op rfl (fun K hK => ?_)
    have q35 := gL zl 0
    go_simp
    clear q35
    refine hK _ _ (tP hs hd zl ?_)
    clear hK K hs hd zl
    intro a hs hd zl
    refine wp_cond_false (vL zl 0) ?_
    refine wp_skip ?_
    refine wp_seq ?_
    refine wp_seq ?_
    have d6 : w.cell? ⟨j, 6, none⟩ = some (.slice J.bh.A J.bh.l.length J.bh.c) := by rw [(hj.after hB).cell]; rfl
    obtain ⟨s36, -, -, -, -, -, -, -, -, -, -, -, s4, s0, s1, -⟩ := zl
    refine fl2 (F := [(0, _), (1, _), (4, _), (36, _)]) [.eq 40 _, FItem.bs 41 0 (rootN 20 H.leaves), .eq 42 _, .eq 43 _, .eq 44 _, .eq 45 _, .eq 46 _] 7 hs hd ⟨s0, s1, s4, s36, trivial⟩
     ⟨(stp rfl fun a u hb hs hl hd K hK => by have s0 := gL hl 0; clear hd; go_simp; exact kE hK hs),
      (stp rfl fun a u hb hs hl hd K hK => by
       have s40 := gD hd 0
       have d6 := cell_up hb d6
       clear hd
       have hB' := bz_then hB hb
       go_simp
       refine (c_HHash H ps g _ hn (hg.after hB') (hk.after hB') (hps.after hB') hpl hne (hKt.after hB') (Nat.lt_of_lt_of_le h0 hB'.size)).mono ?_
       rintro e w5 ⟨v, rfl, hv, hb2⟩
       exact hK _ _ hb2 (bs_put hs (by decide) (hv.less (Nat.zero_le _)))),
      (stp rfl fun a u hb hs hl hd K hK => by have s1 := gL hl 1; clear hd; go_simp; exact kE hK hs),
      (stp rfl fun a u hb hs hl hd K hK => by have s42 := gD hd 2; clear hd; go_simp; exact kE hK hs),
      (stp rfl fun a u hb hs hl hd K hK => by have s43 := gD hd 3; clear hd; go_simp; exact kE hK hs),
      (stp rfl fun a u hb hs hl hd K hK => by have s44 := gD hd 4; clear hd; go_simp; exact kE hK hs),
      (stp rfl fun a u hb hs hl hd K hK => by have s45 := gD hd 5; have d6 := cell_up hb d6; clear hd; go_simp; exact kE hK hs),
      trivial⟩ ?_
    clear hs hd s0 s1 s4 s36
    intro a w hb hs hd zl hh
    replace zl := lH hh 6 zl
    have i41 := FItem.bs_holds.1 (hold_get hh 1)
    obtain ⟨v41, s41⟩ : ∃ v, a.tmps.getD 41 undef = v := ⟨_, rfl⟩
    rw [s41] at i41
    clear hh
    replace d6 := cell_up hb d6
    replace hB := bz_then hB hb
    clear hb
    show wpList _ _ _ [_, _] _ _
    refine tail_op rfl (fun K hK => ?_)
    have q41 := gd s41
    have q46 := gL zl 0
    obtain ⟨x41, A41, k41, hx41, rfl, f41, n41, b41, -⟩ := i41
    have hl2 := (hl.after hB).bh
    go_simp
    refine (c_bEqual A41 J.bh.A k41 J.bh.c x41 J.bh.l _ f41 b41 (by rw [hx41.out]; exact rootN_bytes _ _) hl2.fm hl2.bs hl2.b8).mono ?_
    rintro e w5 ⟨rfl, hw5⟩
    obtain rfl := hw5.symm
    rw [hx41.out, hrb.out]
    clear q41 q46
    refine hK _ _ ?_
    clear hK K
    obtain ⟨s46, s0, s1, s4, -, -⟩ := zl
    refine act_put (d := 47) _ hs hd (by decide) [(0, _), (1, _), (4, _), (41, _), (46, _)] ⟨s0, s1, s4, s41, s46, trivial⟩ rfl ?_
    clear hs hd s0 s1 s4 s41 s46
    intro a hs hd zl
    refine tail_op rfl (fun K hK => ?_)
    have q47 := gL zl 0
    go_simp
    clear q47
    refine hK _ _ (tP hs hd zl ?_)
    clear hK K hs hd zl
    intro a hs hd zl
    clear d6
    refine wp_cond_true (vL zl 0) ?_
    refine wp_seq ?_
    refine wp_region_list ?_
    show wpList _ _ _ [_, _, _, _] _ _
    refine tail_op rfl (fun K hK => ?_)
    go_simp
    refine (c_errNew _ _).mono ?_
    rintro e w5 ⟨ad, rfl, hb2⟩
    refine hK _ _ (tP hs hd zl ?_)
    clear hK K hs hd zl
    intro a hs hd zl
    replace hB := bz_then hB hb2
    clear hb2
    refine tail_op rfl (fun K hK => ?_)
    have q49 := gL zl 0
    go_simp
    clear q49
    refine hK _ _ (tP hs hd zl ?_)
    clear hK K hs hd zl
    intro a hs hd zl
    refine tail_op rfl (fun K hK => ?_)
    have q50 := gL zl 0
    go_simp
    clear q50
    refine hK _ _ (tP hs hd zl ?_)
    clear hK K hs hd zl
    intro a hs hd zl
    refine tail_op rfl (fun K hK => ?_)
    have q51 := gL zl 0
    go_simp
    clear q51
    refine hK _ _ ?_
    clear hK K
    obtain ⟨s51, s50, s49, s48, -, s0, s1, s4, -, -, -⟩ := zl
    refine act_put (d := 4) _ hs hd (by decide) [(0, _), (1, _), (48, _), (49, _), (50, _), (51, _)] ⟨s0, s1, s48, s49, s50, s51, trivial⟩ rfl ?_
    clear hs hd s0 s1 s4 s48 s49 s50 s51
    intro a hs hd zl
    refine wp_ret ?_
    repeat first | refine then_ret ?_ | refine inBlock_ret ?_
    exact end_tmp rfl hd (vL zl 0) ⟨.inr ⟨by simp only [backB, hrb.out, Bool.and_false], _, rfl⟩, hB⟩
   refine wp_seq ?_
   refine wp_region_list ?_
   show wpList _ _ _ [_, _] _ _
   refine tail_op rfl (fun K hK => ?_)
   have q5 := gL zl 0
   go_simp
   clear q5
   refine hK _ _ (tP hs hd zl ?_)
   clear hK K hs hd zl
   intro a hs hd zl
   refine tail_op rfl (fun K hK => ?_)
   have q10 := gL zl 0
   go_simp
   clear q10
   refine hK _ _ (tP hs hd zl ?_)
   clear hK K hs hd zl
   intro a hs hd zl
   refine wp_cond_false (vL zl 0) ?_
   refine wp_skip ?_
   refine wp_seq ?_
   refine wp_seq ?_
   have c2 : w3.cell? ⟨g, 2, none⟩ = some (.string H.ch) := by rw [(hg.after hB).cell]; rfl
   have d2 : w3.cell? ⟨j, 2, none⟩ = some (.string J.ch) := by rw [(hj.after hB).cell]; rfl
   refine fl2 [.eq 15 _, .eq 16 _, .eq 17 _, .eq 18 _, .eq 19 _, .eq 20 _, .eq 21 _, .eq 22 _] 8 hs hd zl
    ⟨(stp rfl fun a u hb hs hl hd K hK => by have s0 := gL hl 8; clear hd; go_simp; exact kE hK hs),
     (stp rfl fun a u hb hs hl hd K hK => by have s15 := gD hd 0; clear hd; go_simp; exact kE hK hs),
     (stp rfl fun a u hb hs hl hd K hK => by have s16 := gD hd 1; clear hd; go_simp; exact kE hK hs),
     (stp rfl fun a u hb hs hl hd K hK => by have s17 := gD hd 2; have c2 := cell_up hb c2; have d2 := cell_up hb d2; clear hd; go_simp; exact kE hK hs),
     (stp rfl fun a u hb hs hl hd K hK => by have s1 := gL hl 9; clear hd; go_simp; exact kE hK hs),
     (stp rfl fun a u hb hs hl hd K hK => by have s19 := gD hd 4; clear hd; go_simp; exact kE hK hs),
     (stp rfl fun a u hb hs hl hd K hK => by have s20 := gD hd 5; clear hd; go_simp; exact kE hK hs),
     (stp rfl fun a u hb hs hl hd K hK => by have s21 := gD hd 6; have c2 := cell_up hb c2; have d2 := cell_up hb d2; clear hd; go_simp; exact kE hK hs),
     trivial⟩ ?_
   clear hs hd zl
   intro a w hb hs hd zl hh
   replace zl := lH hh 3 zl
   replace zl := lH hh 7 zl
   clear hh
   replace c2 := cell_up hb c2
   replace d2 := cell_up hb d2
   replace hB := bz_then hB hb
   clear hb
   show wpList _ _ _ [_] _ _
   refine tail_op rfl (fun K hK => ?_)
   have q18 := gL zl 1
   have q22 := gL zl 0
   go_simp
   clear q18 q22
   refine hK _ _ (tP hs hd zl ?_)
   clear hK K hs hd zl
   intro a hs hd zl
   clear c2 d2
   refine wp_cond_false (vL zl 0) ?_
   refine wp_skip ?_
   refine wp_seq ?_
   refine wp_seq ?_
   refine fl2 [.eq 27 _, .eq 28 _, .eq 29 _, .eq 30 (.agg #[.int .i64 (H.sec + 62135596800), .int .i32 H.ns]), .eq 31 _, .eq 32 _, .eq 33 _, .eq 34 (.agg #[.int .i64 (J.sec + 62135596800), .int .i32 J.ns]), .eq 35 (.bool true)] 9 hs hd zl
    ⟨(stp rfl fun a u hb hs hl hd K hK => by have s0 := gL hl 11; clear hd; go_simp; exact kE hK hs),
     (stp rfl fun a u hb hs hl hd K hK => by have s27 := gD hd 0; clear hd; go_simp; exact kE hK hs),
     (stp rfl fun a u hb hs hl hd K hK => by have s28 := gD hd 1; clear hd; go_simp; exact kE hK hs),
     (stp rfl fun a u hb hs hl hd K hK => by
      have s29 := gD hd 2
      clear hd
      refine op_load_part 86 (.tmp 29) rfl g 4 (gu s29) _ _ #[.int .i64 (H.sec + 62135596800), .int .i32 H.ns] _ ((hg.after hB).after hb) (show (4 + 2 : Nat) ≤ 18 by decide) rfl rfl (by kernel_rfl) rfl ?_
      exact kE hK hs),
     (stp rfl fun a u hb hs hl hd K hK => by have s1 := gL hl 12; clear hd; go_simp; exact kE hK hs),
     (stp rfl fun a u hb hs hl hd K hK => by have s31 := gD hd 4; clear hd; go_simp; exact kE hK hs),
     (stp rfl fun a u hb hs hl hd K hK => by have s32 := gD hd 5; clear hd; go_simp; exact kE hK hs),
     (stp rfl fun a u hb hs hl hd K hK => by
      have s33 := gD hd 6
      clear hd
      refine op_load_part 86 (.tmp 33) rfl j 4 (gu s33) _ _ #[.int .i64 (J.sec + 62135596800), .int .i32 J.ns] _ ((hj.after hB).after hb) (show (4 + 2 : Nat) ≤ 18 by decide) rfl rfl (by kernel_rfl) rfl ?_
      exact kE hK hs),
     (stp rfl fun a u hb hs hl hd K hK => by
      have s30 := gD hd 3
      have s34 := gD hd 7
      clear hd
      go_simp
      refine (c_Before _ _ _ _ _).mono ?_
      rintro e w5 ⟨rfl, hb2⟩
      rw [laterB_add, hlb.out]
      exact hK _ _ hb2 (eq_put hs (by decide))),
     trivial⟩ ?_
   clear hs hd zl
   intro a w hb hs hd zl hh
   replace zl := lH hh 8 zl
   clear hh
   replace hB := bz_then hB hb
   clear hb
   show wpList _ _ _ [_] _ _
   refine tail_op rfl (fun K hK => ?_)
   have q35 := gL zl 0
   go_simp
   clear q35
   refine hK _ _ (tP hs hd zl ?_)
   clear hK K hs hd zl
   intro a hs hd zl
   refine wp_cond_false (vL zl 0) ?_
   refine wp_skip ?_
   refine wp_seq ?_
   refine wp_seq ?_
   have d6 : w.cell? ⟨j, 6, none⟩ = some (.slice J.bh.A J.bh.l.length J.bh.c) := by rw [(hj.after hB).cell]; rfl
   obtain ⟨s36, -, -, -, -, -, -, -, -, -, -, -, s4, s0, s1, -⟩ := zl
   refine fl2 (F := [(0, _), (1, _), (4, _), (36, _)]) [.eq 40 _, FItem.bs 41 0 (rootN 20 H.leaves), .eq 42 _, .eq 43 _, .eq 44 _, .eq 45 _, .eq 46 _] 7 hs hd ⟨s0, s1, s4, s36, trivial⟩
    ⟨(stp rfl fun a u hb hs hl hd K hK => by have s0 := gL hl 0; clear hd; go_simp; exact kE hK hs),
     (stp rfl fun a u hb hs hl hd K hK => by
      have s40 := gD hd 0
      have d6 := cell_up hb d6
      clear hd
      have hB' := bz_then hB hb
      go_simp
      refine (c_HHash H ps g _ hn (hg.after hB') (hk.after hB') (hps.after hB') hpl hne (hKt.after hB') (Nat.lt_of_lt_of_le h0 hB'.size)).mono ?_
      rintro e w5 ⟨v, rfl, hv, hb2⟩
      exact hK _ _ hb2 (bs_put hs (by decide) (hv.less (Nat.zero_le _)))),
     (stp rfl fun a u hb hs hl hd K hK => by have s1 := gL hl 1; clear hd; go_simp; exact kE hK hs),
     (stp rfl fun a u hb hs hl hd K hK => by have s42 := gD hd 2; clear hd; go_simp; exact kE hK hs),
     (stp rfl fun a u hb hs hl hd K hK => by have s43 := gD hd 3; clear hd; go_simp; exact kE hK hs),
     (stp rfl fun a u hb hs hl hd K hK => by have s44 := gD hd 4; clear hd; go_simp; exact kE hK hs),
     (stp rfl fun a u hb hs hl hd K hK => by have s45 := gD hd 5; have d6 := cell_up hb d6; clear hd; go_simp; exact kE hK hs),
     trivial⟩ ?_
   clear hs hd s0 s1 s4 s36
   intro a w hb hs hd zl hh
   replace zl := lH hh 6 zl
   have i41 := FItem.bs_holds.1 (hold_get hh 1)
   obtain ⟨v41, s41⟩ : ∃ v, a.tmps.getD 41 undef = v := ⟨_, rfl⟩
   rw [s41] at i41
   clear hh
   replace d6 := cell_up hb d6
   replace hB := bz_then hB hb
   clear hb
   show wpList _ _ _ [_, _] _ _
   refine tail_op rfl (fun K hK => ?_)
   have q41 := gd s41
   have q46 := gL zl 0
   obtain ⟨x41, A41, k41, hx41, rfl, f41, n41, b41, -⟩ := i41
   have hl2 := (hl.after hB).bh
   go_simp
   refine (c_bEqual A41 J.bh.A k41 J.bh.c x41 J.bh.l _ f41 b41 (by rw [hx41.out]; exact rootN_bytes _ _) hl2.fm hl2.bs hl2.b8).mono ?_
   rintro e w5 ⟨rfl, hw5⟩
   obtain rfl := hw5.symm
   rw [hx41.out, hrb.out]
   clear q41 q46
   refine hK _ _ ?_
   clear hK K
   obtain ⟨s46, s0, s1, s4, -, -⟩ := zl
   refine act_put (d := 47) _ hs hd (by decide) [(0, _), (1, _), (4, _), (41, _), (46, _)] ⟨s0, s1, s4, s41, s46, trivial⟩ rfl ?_
   clear hs hd s0 s1 s4 s41 s46
   intro a hs hd zl
   refine tail_op rfl (fun K hK => ?_)
   have q47 := gL zl 0
   go_simp
   clear q47
   refine hK _ _ (tP hs hd zl ?_)
   clear hK K hs hd zl
   intro a hs hd zl
   clear d6
   refine wp_cond_false (vL zl 0) ?_
   refine wp_skip ?_
   refine wp_seq ?_
   refine wp_region_list ?_
   show wpList _ _ _ [_] _ _
   refine tail_op rfl (fun K hK => ?_)
   go_simp
   refine hK _ _ ?_
   clear hK K
   obtain ⟨s48, -, s0, s1, s4, -, -, -⟩ := zl
   refine act_put (d := 4) _ hs hd (by decide) [(0, _), (1, _), (48, _)] ⟨s0, s1, s48, trivial⟩ rfl ?_
   clear hs hd s0 s1 s4 s48
   intro a hs hd zl
   refine wp_ret ?_
   exact end_tmp rfl hd (vL zl 0) ⟨.inl ⟨by simp only [backB, hrb.out, hlb.out, h1, hf, Bool.and_true], rfl⟩, hB⟩
  have h1f : eqB H.ch J.ch = false := by simpa using h1
  have h1' : (H.ch.toList == J.ch.toList) = false := h1f
  have h1'' : (H.ch.toList != J.ch.toList) = true := by rw [bne, h1']; rfl
  refine wp_seq ?_
  refine wp_region_list ?_
  show wpList _ _ _ [_, _] _ _
  refine tail_op rfl (fun K hK => ?_)
  have q5 := gL zl 0
  go_simp
  clear q5
  refine hK _ _ (tP hs hd zl ?_)
  clear hK K hs hd zl
  intro a hs hd zl
  refine tail_op rfl (fun K hK => ?_)
  have q10 := gL zl 0
  go_simp
  clear q10
  refine hK _ _ (tP hs hd zl ?_)
  clear hK K hs hd zl
  intro a hs hd zl
  refine wp_cond_false (vL zl 0) ?_
  refine wp_skip ?_
  refine wp_seq ?_
  refine wp_seq ?_
  have c2 : w3.cell? ⟨g, 2, none⟩ = some (.string H.ch) := by rw [(hg.after hB).cell]; rfl
  have d2 : w3.cell? ⟨j, 2, none⟩ = some (.string J.ch) := by rw [(hj.after hB).cell]; rfl
  refine fl2 [.eq 15 _, .eq 16 _, .eq 17 _, .eq 18 _, .eq 19 _, .eq 20 _, .eq 21 _, .eq 22 _] 8 hs hd zl
   ⟨(stp rfl fun a u hb hs hl hd K hK => by have s0 := gL hl 8; clear hd; go_simp; exact kE hK hs),
    (stp rfl fun a u hb hs hl hd K hK => by have s15 := gD hd 0; clear hd; go_simp; exact kE hK hs),
    (stp rfl fun a u hb hs hl hd K hK => by have s16 := gD hd 1; clear hd; go_simp; exact kE hK hs),
    (stp rfl fun a u hb hs hl hd K hK => by have s17 := gD hd 2; have c2 := cell_up hb c2; have d2 := cell_up hb d2; clear hd; go_simp; exact kE hK hs),
    (stp rfl fun a u hb hs hl hd K hK => by have s1 := gL hl 9; clear hd; go_simp; exact kE hK hs),
    (stp rfl fun a u hb hs hl hd K hK => by have s19 := gD hd 4; clear hd; go_simp; exact kE hK hs),
    (stp rfl fun a u hb hs hl hd K hK => by have s20 := gD hd 5; clear hd; go_simp; exact kE hK hs),
    (stp rfl fun a u hb hs hl hd K hK => by have s21 := gD hd 6; have c2 := cell_up hb c2; have d2 := cell_up hb d2; clear hd; go_simp; exact kE hK hs),
    trivial⟩ ?_
  clear hs hd zl
  intro a w hb hs hd zl hh
  replace zl := lH hh 3 zl
  replace zl := lH hh 7 zl
  clear hh
  replace c2 := cell_up hb c2
  replace d2 := cell_up hb d2
  replace hB := bz_then hB hb
  clear hb
  show wpList _ _ _ [_] _ _
  refine tail_op rfl (fun K hK => ?_)
  have q18 := gL zl 1
  have q22 := gL zl 0
  go_simp
  clear q18 q22
  refine hK _ _ (tP hs hd zl ?_)
  clear hK K hs hd zl
  intro a hs hd zl
  clear c2 d2
  refine wp_cond_true (vL zl 0) ?_
  refine wp_seq ?_
  refine wp_region_list ?_
  show wpList _ _ _ [_, _, _, _] _ _
  refine tail_op rfl (fun K hK => ?_)
  go_simp
  refine (c_errNew _ _).mono ?_
  rintro e w5 ⟨ad, rfl, hb2⟩
  refine hK _ _ (tP hs hd zl ?_)
  clear hK K hs hd zl
  intro a hs hd zl
  replace hB := bz_then hB hb2
  clear hb2
  refine tail_op rfl (fun K hK => ?_)
  have q24 := gL zl 0
  go_simp
  clear q24
  refine hK _ _ (tP hs hd zl ?_)
  clear hK K hs hd zl
  intro a hs hd zl
  refine tail_op rfl (fun K hK => ?_)
  have q25 := gL zl 0
  go_simp
  clear q25
  refine hK _ _ (tP hs hd zl ?_)
  clear hK K hs hd zl
  intro a hs hd zl
  refine tail_op rfl (fun K hK => ?_)
  have q26 := gL zl 0
  go_simp
  clear q26
  refine hK _ _ ?_
  clear hK K
  obtain ⟨s26, s25, s24, s23, -, -, -, -, -, -, -, -, -, s4, s0, s1, -⟩ := zl
  refine act_put (d := 4) _ hs hd (by decide) [(0, _), (1, _), (23, _), (24, _), (25, _), (26, _)] ⟨s0, s1, s23, s24, s25, s26, trivial⟩ rfl ?_
  clear hs hd s0 s1 s4 s23 s24 s25 s26
  intro a hs hd zl
  refine wp_ret ?_
  repeat first | refine then_ret ?_ | refine inBlock_ret ?_
  exact end_tmp rfl hd (vL zl 0) ⟨.inr ⟨by simp [backB, h1f], _, rfl⟩, hB⟩
 refine wp_seq ?_
 refine wp_region_list ?_
 show wpList _ _ _ [_, _] _ _
 refine tail_op rfl (fun K hK => ?_)
 have q5 := gL zl 0
 go_simp
 clear q5
 refine hK _ _ (tP hs hd zl ?_)
 clear hK K hs hd zl
 intro a hs hd zl
 refine tail_op rfl (fun K hK => ?_)
 have q10 := gL zl 0
 go_simp
 clear q10
 refine hK _ _ (tP hs hd zl ?_)
 clear hK K hs hd zl
 intro a hs hd zl
 refine wp_cond_true (vL zl 0) ?_
 refine wp_seq ?_
 refine wp_region_list ?_
 show wpList _ _ _ [_, _, _, _] _ _
 refine tail_op rfl (fun K hK => ?_)
 have q5 := gL zl 2
 go_simp
 clear q5
 refine hK _ _ (tP hs hd zl ?_)
 clear hK K hs hd zl
 intro a hs hd zl
 refine tail_op rfl (fun K hK => ?_)
 have q12 := gL zl 0
 go_simp
 clear q12
 refine hK _ _ (tP hs hd zl ?_)
 clear hK K hs hd zl
 intro a hs hd zl
 refine tail_op rfl (fun K hK => ?_)
 have q13 := gL zl 0
 go_simp
 clear q13
 refine hK _ _ (tP hs hd zl ?_)
 clear hK K hs hd zl
 intro a hs hd zl
 refine tail_op rfl (fun K hK => ?_)
 have q14 := gL zl 0
 go_simp
 clear q14
 refine hK _ _ ?_
 clear hK K
 obtain ⟨s14, s13, s12, s11, -, s5, -, -, -, -, s4, s0, s1, -⟩ := zl
 refine act_put (d := 4) _ hs hd (by decide) [(0, _), (1, _), (5, _), (11, _), (12, _), (13, _), (14, _)] ⟨s0, s1, s5, s11, s12, s13, s14, trivial⟩ rfl ?_
 clear hs hd s0 s1 s4 s5 s11 s12 s13 s14
 intro a hs hd zl
 refine wp_ret ?_
 repeat first | refine then_ret ?_ | refine inBlock_ret ?_
 exact end_tmp rfl hd (vL zl 0) ⟨.inr ⟨by simp [backB, hf], _, rfl⟩, hB⟩
end Go.Proofs.YtcmllcmcbamlbaaDoor
namespace Go.Proofs.YtcmllcmcbamlbaaDoor
open Go.RowKit
/-- A slot that holds a pointer to a header of the package's. -/
def PtrH (H : Hd) (v : Value) (w : World) : Prop := ∃ g ps, v = .pointer (some ⟨g, 0, none⟩) ∧ Blk w g 93 (H.pcells ps) ∧ ps.ok w ∧ Is ps.l (bytesOf H.pr)
theorem PtrH.after {H : Hd} {v : Value} {w w' : World} (h : PtrH H v w) (hb : Below w.heap.size w w') : PtrH H v w' := by
 obtain ⟨g, ps, h1, h2, h3, h4⟩ := h
 exact ⟨g, ps, h1, h2.after hb, h3.after hb, h4⟩
def FItem.ph (t : Nat) (H : Hd) : FItem := { reads := [t], fact := fun vs w => ∃ v, vs = [v] ∧ PtrH H v w, keeps := fun _ _ _ hb ⟨v, h1, h2⟩ => ⟨v, h1, h2.after hb⟩ }
theorem FItem.ph_holds {t : Nat} {H : Hd} {a : Act} {w : World} : (FItem.ph t H).holds a w ↔ PtrH H (a.tmps.getD t undef) w := by
 constructor
 ·rintro ⟨v, h1, h2⟩
  injection h1 with h1
  have h1 : a.tmps.getD t undef = v := h1
  rwa [h1]
 ·exact fun h => ⟨_, rfl, h⟩
theorem ph_put {a : Act} {d : Nat} {H : Hd} {v : Value} {w : World} {sz : Nat} (hs : SzIs a sz) (hd : d < sz) (h : PtrH H v w) : (FItem.ph d H).holds (a.put (some d) v) w := FItem.ph_holds.2 (by rw [put_self a d v (by rw [hs.out]; exact hd)]; exact h)

set_option maxHeartbeats 4000000 in
set_option maxRecDepth 100000 in
theorem c_iBack (H J : Hd) (w : World) (hn : H.num) (hm : J.num) (hk : H.ok w) (hJk : J.ok w) (hht : 0 < H.ht) (hz : H.sized) (hne : (((H.hh 2).l.length : Int) == 0) = false) (hKt : KTab w 0) :
  Calls Tryd.prog 11 #[.agg H.cells, .agg J.cells] w fun e w' => e = .returned (.bool (backB H J)) ∧ Below w.heap.size w w' := by
 suffices h : ∀ w0, (H.ok w0) → (J.ok w0) → (KTab w0 0) → Below w0.heap.size w0 w → Calls Tryd.prog 11 #[.agg H.cells, .agg J.cells] w fun e w' => e = .returned (.bool (backB H J)) ∧ Below w0.heap.size w0 w' from h w hk hJk hKt (bz_refl w)
 clear hk hJk hKt
 intro w0 hk hJk hKt hB
 refine enter_abs Tryd.func11 rfl 11 rfl (by simp) ?_
 intro a hs hd hargs
 have s0 := hargs 0 _ rfl
 have s1 := hargs 1 _ rfl
 clear hargs
 refine wp_seq ?_
 refine wp_region_list ?_
 show wpList _ _ _ [_, _, _] _ _
 refine tail_op rfl (fun K hK => ?_)
 have q0 := gd s0
 go_simp
 clear q0
 refine hK _ _ ?_
 clear hK K
 refine act_put (d := 2) _ hs hd (by decide) [(0, _), (1, _)] ⟨s0, s1, trivial⟩ rfl ?_
 clear hs hd s0 s1
 intro a hs hd zl
 obtain ⟨g, hE⟩ : ∃ B, Is w.heap.size B := is_self _
 generalize hw1 : World.alloc w _ = w1
 have hg : Blk w1 g 33 H.cells := by rw [← hw1, ← hE.out]; exact Blk.new w _ _
 have hB1 : Below w.heap.size w w1 := by rw [← hw1]; exact bz_alloc (bz_refl w) _
 replace hB := bz_then hB hB1
 obtain ⟨s2, s0, s1, -⟩ := zl
 rw [hE.out] at s2
 clear hw1 hB1 hE
 refine tail_op rfl (fun K hK => ?_)
 have q1 := gd s1
 go_simp
 clear q1
 refine hK _ _ ?_
 clear hK K
 refine act_put (d := 3) _ hs hd (by decide) [(0, _), (1, _), (2, _)] ⟨s0, s1, s2, trivial⟩ rfl ?_
 clear hs hd s0 s1 s2
 intro a hs hd zl
 obtain ⟨j, hE⟩ : ∃ B, Is w1.heap.size B := is_self _
 generalize hw1 : World.alloc w1 _ = w2
 have hj : Blk w2 j 33 J.cells := by rw [← hw1, ← hE.out]; exact Blk.new w1 _ _
 have hB1 : Below w1.heap.size w1 w2 := by rw [← hw1]; exact bz_alloc (bz_refl w1) _
 replace hB := bz_then hB hB1
 replace hg := hg.after hB1
 obtain ⟨s3, s0, s1, s2, -⟩ := zl
 rw [hE.out] at s3
 clear hw1 hB1 hE
 refine tail_op rfl (fun K hK => ?_)
 go_simp
 refine hK _ _ ?_
 clear hK K
 refine act_put (d := 4) _ hs hd (by decide) [(0, _), (1, _), (2, _), (3, _)] ⟨s0, s1, s2, s3, trivial⟩ rfl ?_
 clear hs hd s0 s1 s2 s3
 intro a hs hd zl
 refine wp_seq ?_
 obtain ⟨-, -, -, s2, s3, -⟩ := zl
 refine fl2 (F := [(2, _), (3, _)]) [.eq 5 (.agg H.cells), FItem.ph 6 H, .eq 7 (.agg J.cells), FItem.ph 8 J] 4 hs hd ⟨s2, s3, trivial⟩
  ⟨(stp rfl fun a u hb hs hl hd K hK => by
    have s2 := gL hl 0
    clear hd
    refine op_load_row 33 (.tmp 2) rfl g (gu s2) _ _ _ (hg.after hb) rfl rfl (by kernel_rfl) ?_
    exact kE hK hs),
   (stp rfl fun a u hb hs hl hd K hK => by
    have s5 := gD hd 0
    clear hd
    go_simp
    refine (c_header H _ hn).mono ?_
    rintro e w3 ⟨g3, ps, rfl, h1, h2, h3, -, hb2⟩
    exact hK _ _ hb2 (ph_put hs (by decide) ⟨g3, ps, rfl, h1, h2, h3⟩)),
   (stp rfl fun a u hb hs hl hd K hK => by
    have s3 := gL hl 1
    clear hd
    refine op_load_row 33 (.tmp 3) rfl j (gu s3) _ _ _ (hj.after hb) rfl rfl (by kernel_rfl) ?_
    exact kE hK hs),
   (stp rfl fun a u hb hs hl hd K hK => by
    have s7 := gD hd 2
    clear hd
    go_simp
    refine (c_header J _ hm).mono ?_
    rintro e w3 ⟨g3, ps, rfl, h1, h2, h3, -, hb2⟩
    exact hK _ _ hb2 (ph_put hs (by decide) ⟨g3, ps, rfl, h1, h2, h3⟩)),
   trivial⟩ ?_
 clear hs hd s2 s3
 intro a w hb hs hd zl hh
 have i6 := FItem.ph_holds.1 (hold_get hh 1)
 obtain ⟨v6, s6⟩ : ∃ v, a.tmps.getD 6 undef = v := ⟨_, rfl⟩
 rw [s6] at i6
 have i8 := FItem.ph_holds.1 (hold_get hh 3)
 obtain ⟨v8, s8⟩ : ∃ v, a.tmps.getD 8 undef = v := ⟨_, rfl⟩
 rw [s8] at i8
 clear hh
 replace hg := hg.after hb
 replace hj := hj.after hb
 replace hB := bz_then hB hb
 clear hb
 show wpList _ _ _ [_, _, _] _ _
 refine tail_op rfl (fun K hK => ?_)
 have q6 := gd s6
 have q8 := gd s8
 obtain ⟨g6, ps, rfl, hg6, hps, hpl⟩ := i6
 obtain ⟨g8, qs, rfl, hg8, -, -⟩ := i8
 go_simp
 refine (c_VBack H J ps qs g6 g8 _ hn hm hg6 hg8 (hk.after hB) (hJk.after hB) hps hpl hht hz hne (hKt.after hB) (hKt.after hB).lt).mono ?_
 intro e w3 h
 obtain ⟨v9, rfl, hv9, hb2⟩ := h.val
 clear q6 q8
 refine hK _ _ ?_
 clear hK K
 obtain ⟨-, -, -⟩ := zl
 refine act_put (d := 9) _ hs hd (by decide) [(6, _), (8, _)] ⟨s6, s8, trivial⟩ rfl ?_
 clear hs hd s6 s8
 intro a hs hd zl
 replace hB := bz_then hB hb2
 clear hb2
 obtain ⟨s9, s6, s8, -⟩ := zl
 rcases hv9 with ⟨hf, rfl⟩ | ⟨hf, ad, rfl⟩
 all_goals
  refine tail_op rfl (fun K hK => ?_)
  have q9 := gd s9
  go_simp
  clear q9
  refine hK _ _ ?_
  clear hK K
  refine act_put (d := 10) _ hs hd (by decide) [(6, _), (8, _), (9, _)] ⟨s6, s8, s9, trivial⟩ rfl ?_
  clear hs hd s6 s8 s9
  intro a hs hd e
  obtain ⟨s10, s6, s8, s9, -⟩ := e
  refine tail_op rfl (fun K hK => ?_)
  have q10 := gd s10
  go_simp
  clear q10
  refine hK _ _ ?_
  clear hK K
  refine act_put (d := 4) _ hs hd (by decide) [(6, _), (8, _), (9, _), (10, _)] ⟨s6, s8, s9, s10, trivial⟩ rfl ?_
  clear hs hd s6 s8 s9 s10
  intro a hs hd e
  obtain ⟨s4, s6, s8, s9, s10, -⟩ := e
  clear s6 s8 s9 s10
  refine wp_ret ?_
  exact end_tmp rfl hd s4 ⟨by rw [hf], hB⟩
set_option maxHeartbeats 4000000 in
set_option maxRecDepth 100000 in
theorem c_sBack (H J : Hd) (w : World) (hn : H.num) (hk : H.ok w) (hJk : J.ok w) (hht : 0 < H.ht) (hz : H.sized) (hne : (((H.hh 2).l.length : Int) == 0) = false) :
  Calls Tryd.prog 12 #[.agg H.cells, .agg J.cells] w fun e w' => e = .returned (.bool (backB H J)) ∧ Below w.heap.size w w' := by
 suffices h : ∀ w0, (H.ok w0) → (J.ok w0) → Below w0.heap.size w0 w → Calls Tryd.prog 12 #[.agg H.cells, .agg J.cells] w fun e w' => e = .returned (.bool (backB H J)) ∧ Below w0.heap.size w0 w' from h w hk hJk (bz_refl w)
 clear hk hJk
 intro w0 hk hJk hB
 refine enter_abs Tryd.func12 rfl 31 rfl (by simp) ?_
 intro a hs hd hargs
 have s0 := hargs 0 _ rfl
 have s1 := hargs 1 _ rfl
 clear hargs
 refine wp_seq ?_
 refine wp_region_list ?_
 show wpList _ _ _ [_, _, _] _ _
 refine tail_op rfl (fun K hK => ?_)
 have q0 := gd s0
 go_simp
 clear q0
 refine hK _ _ ?_
 clear hK K
 refine act_put (d := 2) _ hs hd (by decide) [(0, _), (1, _)] ⟨s0, s1, trivial⟩ rfl ?_
 clear hs hd s0 s1
 intro a hs hd zl
 obtain ⟨g, hE⟩ : ∃ B, Is w.heap.size B := is_self _
 generalize hw1 : World.alloc w _ = w1
 have hg : Blk w1 g 40 H.cells := by rw [← hw1, ← hE.out]; exact Blk.new w _ _
 have hB1 : Below w.heap.size w w1 := by rw [← hw1]; exact bz_alloc (bz_refl w) _
 replace hB := bz_then hB hB1
 obtain ⟨s2, s0, s1, -⟩ := zl
 rw [hE.out] at s2
 clear hw1 hB1 hE
 refine tail_op rfl (fun K hK => ?_)
 have q1 := gd s1
 go_simp
 clear q1
 refine hK _ _ ?_
 clear hK K
 refine act_put (d := 3) _ hs hd (by decide) [(0, _), (1, _), (2, _)] ⟨s0, s1, s2, trivial⟩ rfl ?_
 clear hs hd s0 s1 s2
 intro a hs hd zl
 obtain ⟨j, hE⟩ : ∃ B, Is w1.heap.size B := is_self _
 generalize hw1 : World.alloc w1 _ = w2
 have hj : Blk w2 j 40 J.cells := by rw [← hw1, ← hE.out]; exact Blk.new w1 _ _
 have hB1 : Below w1.heap.size w1 w2 := by rw [← hw1]; exact bz_alloc (bz_refl w1) _
 replace hB := bz_then hB hB1
 replace hg := hg.after hB1
 obtain ⟨s3, s0, s1, s2, -⟩ := zl
 rw [hE.out] at s3
 clear hw1 hB1 hE
 refine tail_op rfl (fun K hK => ?_)
 go_simp
 refine hK _ _ ?_
 clear hK K
 refine act_put (d := 4) _ hs hd (by decide) [(0, _), (1, _), (2, _), (3, _)] ⟨s0, s1, s2, s3, trivial⟩ rfl ?_
 clear hs hd s0 s1 s2 s3
 intro a hs hd zl
 refine wp_seq ?_
 have c2 : w2.cell? ⟨g, 2, none⟩ = some (.string H.ch) := by rw [hg.cell]; rfl
 have d2 : w2.cell? ⟨j, 2, none⟩ = some (.string J.ch) := by rw [hj.cell]; rfl
 have d6 : w2.cell? ⟨j, 6, none⟩ = some (.slice J.bh.A J.bh.l.length J.bh.c) := by rw [hj.cell]; rfl
 obtain ⟨fb, hf⟩ : ∃ b, formedB H = b := ⟨_, rfl⟩
 cases fb
 ·refine fl2 [.eq 5 (.agg H.cells), .eq 6 (.bool false), .eq 7 (.bool false), .eq 8 _, .eq 9 _, .eq 10 _, .eq 11 _, .eq 12 _, .eq 13 _, .eq 14 (.bool false), .eq 15 _, .eq 16 _, .eq 17 _, .eq 18 _, .eq 19 _, .eq 20 _, .eq 21 (.bool false), .eq 22 _, .eq 23 _, .eq 24 _, .eq 25 _, .eq 26 _, .eq 27 _, .eq 28 _, .eq 29 _, .eq 30 _] 26 hs hd zl
   ⟨(stp rfl fun a u hb hs hl hd K hK => by
     have s2 := gL hl 3
     have c2 := cell_up hb c2
     have d2 := cell_up hb d2
     have d6 := cell_up hb d6
     clear hd
     refine op_load_row 40 (.tmp 2) rfl g (gu s2) _ _ _ (hg.after hb) rfl rfl (by kernel_rfl) ?_
     exact kE hK hs),
    (stp rfl fun a u hb hs hl hd K hK => by
     have s5 := gD hd 0
     have c2 := cell_up hb c2
     have d2 := cell_up hb d2
     have d6 := cell_up hb d6
     clear hd
     go_simp
     refine (c_Formed H _ hht hz).mono ?_
     rintro e w3 ⟨rfl, hb2⟩
     rw [hf]
     exact hK _ _ hb2 (eq_put hs (by decide))),
    (stp rfl fun a u hb hs hl hd K hK => by have s6 := gD hd 1; clear hd; go_simp; exact kE hK hs),
    (fun a u hb hs hl hd K hK => by have s2 := gL hl 3; have g7 := vD hd 2; clear hd; refine step_no rfl (j := 2) (d := 7) rfl rfl g7 (by decide) ?_; exact kE hK hs),
    (fun a u hb hs hl hd K hK => by have s8 := gD hd 3; have c2 := cell_up hb c2; have d2 := cell_up hb d2; have d6 := cell_up hb d6; have g7 := vD hd 2; clear hd; refine step_no rfl (j := 2) (d := 7) rfl rfl g7 (by decide) ?_; exact kE hK hs),
    (fun a u hb hs hl hd K hK => by have s3 := gL hl 4; have g7 := vD hd 2; clear hd; refine step_no rfl (j := 2) (d := 7) rfl rfl g7 (by decide) ?_; exact kE hK hs),
    (fun a u hb hs hl hd K hK => by have s10 := gD hd 5; have c2 := cell_up hb c2; have d2 := cell_up hb d2; have d6 := cell_up hb d6; have g7 := vD hd 2; clear hd; refine step_no rfl (j := 2) (d := 7) rfl rfl g7 (by decide) ?_; exact kE hK hs),
    (fun a u hb hs hl hd K hK => by have s9 := gD hd 4; have s11 := gD hd 6; have g7 := vD hd 2; clear hd; refine step_no rfl (j := 2) (d := 7) rfl rfl g7 (by decide) ?_; exact kE hK hs),
    (stp rfl fun a u hb hs hl hd K hK => by have s7 := gD hd 2; have s12 := gD hd 7; clear hd; go_simp; exact kE hK hs),
    (stp rfl fun a u hb hs hl hd K hK => by have s13 := gD hd 8; clear hd; go_simp; exact kE hK hs),
    (fun a u hb hs hl hd K hK => by have s2 := gL hl 3; have g14 := vD hd 9; clear hd; refine step_no rfl (j := 9) (d := 14) rfl rfl g14 (by decide) ?_; exact kE hK hs),
    (fun a u hb hs hl hd K hK => by have s15 := gD hd 10; have c2 := cell_up hb c2; have d2 := cell_up hb d2; have d6 := cell_up hb d6; have g14 := vD hd 9; clear hd; refine step_no rfl (j := 9) (d := 14) rfl rfl g14 (by decide) ?_; exact kE hK hs),
    (fun a u hb hs hl hd K hK => by have s3 := gL hl 4; have g14 := vD hd 9; clear hd; refine step_no rfl (j := 9) (d := 14) rfl rfl g14 (by decide) ?_; exact kE hK hs),
    (fun a u hb hs hl hd K hK => by have s17 := gD hd 12; have c2 := cell_up hb c2; have d2 := cell_up hb d2; have d6 := cell_up hb d6; have g14 := vD hd 9; clear hd; refine step_no rfl (j := 9) (d := 14) rfl rfl g14 (by decide) ?_; exact kE hK hs),
    (fun a u hb hs hl hd K hK => by have s16 := gD hd 11; have s18 := gD hd 13; have g14 := vD hd 9; clear hd; refine step_no rfl (j := 9) (d := 14) rfl rfl g14 (by decide) ?_; exact kE hK hs),
    (stp rfl fun a u hb hs hl hd K hK => by have s14 := gD hd 9; have s19 := gD hd 14; clear hd; go_simp; exact kE hK hs),
    (stp rfl fun a u hb hs hl hd K hK => by have s20 := gD hd 15; clear hd; go_simp; exact kE hK hs),
    (fun a u hb hs hl hd K hK => by have s2 := gL hl 3; have c2 := cell_up hb c2; have d2 := cell_up hb d2; have d6 := cell_up hb d6; have g21 := vD hd 16; clear hd; refine step_no rfl (j := 16) (d := 21) rfl rfl g21 (by decide) ?_; exact kE hK hs),
    (fun a u hb hs hl hd K hK => by have s22 := gD hd 17; have g21 := vD hd 16; clear hd; refine step_no rfl (j := 16) (d := 21) rfl rfl g21 (by decide) ?_; exact kE hK hs),
    (fun a u hb hs hl hd K hK => by have s23 := gD hd 18; have g21 := vD hd 16; clear hd; refine step_no rfl (j := 16) (d := 21) rfl rfl g21 (by decide) ?_; exact kE hK hs),
    (fun a u hb hs hl hd K hK => by have s3 := gL hl 4; have g21 := vD hd 16; clear hd; refine step_no rfl (j := 16) (d := 21) rfl rfl g21 (by decide) ?_; exact kE hK hs),
    (fun a u hb hs hl hd K hK => by have s25 := gD hd 20; have g21 := vD hd 16; clear hd; refine step_no rfl (j := 16) (d := 21) rfl rfl g21 (by decide) ?_; exact kE hK hs),
    (fun a u hb hs hl hd K hK => by have s26 := gD hd 21; have c2 := cell_up hb c2; have d2 := cell_up hb d2; have d6 := cell_up hb d6; have g21 := vD hd 16; clear hd; refine step_no rfl (j := 16) (d := 21) rfl rfl g21 (by decide) ?_; exact kE hK hs),
    (fun a u hb hs hl hd K hK => by have s27 := gD hd 22; have g21 := vD hd 16; clear hd; refine step_no rfl (j := 16) (d := 21) rfl rfl g21 (by decide) ?_; exact kE hK hs),
    (fun a u hb hs hl hd K hK => by have s24 := gD hd 19; have s28 := gD hd 23; have g21 := vD hd 16; clear hd; refine step_no rfl (j := 16) (d := 21) rfl rfl g21 (by decide) ?_; exact kE hK hs),
    (stp rfl fun a u hb hs hl hd K hK => by have s21 := gD hd 16; have s29 := gD hd 24; clear hd; go_simp; exact kE hK hs),
    trivial⟩ ?_
  clear hs hd zl
  intro a w hb hs hd zl hh
  replace zl := lH hh 25 zl
  clear hh
  replace hg := hg.after hb
  replace hj := hj.after hb
  replace c2 := cell_up hb c2
  replace d2 := cell_up hb d2
  replace d6 := cell_up hb d6
  replace hB := bz_then hB hb
  clear hb
  show wpList _ _ _ [_] _ _
  refine tail_op rfl (fun K hK => ?_)
  have q30 := gL zl 0
  go_simp
  clear q30
  refine hK _ _ ?_
  clear hK K
  obtain ⟨s30, -, -, -, -, -, -⟩ := zl
  refine act_put (d := 4) _ hs hd (by decide) [(30, _)] ⟨s30, trivial⟩ rfl ?_
  clear hs hd s30
  intro a hs hd zl
  refine wp_ret ?_
  exact end_tmp rfl hd (vL zl 0) ⟨by rw [show backB H J = false by simp [backB, hf]], hB⟩
 by_cases h1 : eqB H.ch J.ch = true
 ·have h1' : (H.ch.toList == J.ch.toList) = true := h1
  obtain ⟨lb, hlb⟩ : ∃ b, laterB J.sec J.ns H.sec H.ns = b := ⟨_, rfl⟩
  cases lb
  ·refine fl2 [.eq 5 (.agg H.cells), .eq 6 (.bool true), .eq 7 (.bool true), .eq 8 _, .eq 9 _, .eq 10 _, .eq 11 _, .eq 12 _, .eq 13 _, .eq 14 (.bool true), .eq 15 _, .eq 16 (.agg #[.int .i64 H.sec, .int .i64 H.ns]), .eq 17 _, .eq 18 (.agg #[.int .i64 J.sec, .int .i64 J.ns]), .eq 19 (.bool false), .eq 20 _, .eq 21 (.bool false), .eq 22 _, .eq 23 _, .eq 24 _, .eq 25 _, .eq 26 _, .eq 27 _, .eq 28 _, .eq 29 _, .eq 30 _] 26 hs hd zl
    ⟨(stp rfl fun a u hb hs hl hd K hK => by
      have s2 := gL hl 3
      have c2 := cell_up hb c2
      have d2 := cell_up hb d2
      have d6 := cell_up hb d6
      clear hd
      refine op_load_row 40 (.tmp 2) rfl g (gu s2) _ _ _ (hg.after hb) rfl rfl (by kernel_rfl) ?_
      exact kE hK hs),
     (stp rfl fun a u hb hs hl hd K hK => by
      have s5 := gD hd 0
      have c2 := cell_up hb c2
      have d2 := cell_up hb d2
      have d6 := cell_up hb d6
      clear hd
      go_simp
      refine (c_Formed H _ hht hz).mono ?_
      rintro e w3 ⟨rfl, hb2⟩
      rw [hf]
      exact hK _ _ hb2 (eq_put hs (by decide))),
     (stp rfl fun a u hb hs hl hd K hK => by have s6 := gD hd 1; clear hd; go_simp; exact kE hK hs),
     (fun a u hb hs hl hd K hK => by have s2 := gL hl 3; have g7 := vD hd 2; clear hd; refine step_yes rfl (j := 2) (d := 7) rfl rfl g7 ?_; go_simp; exact kE hK hs),
     (fun a u hb hs hl hd K hK => by have s8 := gD hd 3; have c2 := cell_up hb c2; have d2 := cell_up hb d2; have d6 := cell_up hb d6; have g7 := vD hd 2; clear hd; refine step_yes rfl (j := 2) (d := 7) rfl rfl g7 ?_; go_simp; exact kE hK hs),
     (fun a u hb hs hl hd K hK => by have s3 := gL hl 4; have g7 := vD hd 2; clear hd; refine step_yes rfl (j := 2) (d := 7) rfl rfl g7 ?_; go_simp; exact kE hK hs),
     (fun a u hb hs hl hd K hK => by have s10 := gD hd 5; have c2 := cell_up hb c2; have d2 := cell_up hb d2; have d6 := cell_up hb d6; have g7 := vD hd 2; clear hd; refine step_yes rfl (j := 2) (d := 7) rfl rfl g7 ?_; go_simp; exact kE hK hs),
     (fun a u hb hs hl hd K hK => by have s9 := gD hd 4; have s11 := gD hd 6; have g7 := vD hd 2; clear hd; refine step_yes rfl (j := 2) (d := 7) rfl rfl g7 ?_; go_simp; exact kE hK hs),
     (stp rfl fun a u hb hs hl hd K hK => by have s7 := gD hd 2; have s12 := gD hd 7; clear hd; go_simp; exact kE hK hs),
     (stp rfl fun a u hb hs hl hd K hK => by have s13 := gD hd 8; clear hd; go_simp; exact kE hK hs),
     (fun a u hb hs hl hd K hK => by have s2 := gL hl 3; have g14 := vD hd 9; clear hd; refine step_yes rfl (j := 9) (d := 14) rfl rfl g14 ?_; go_simp; exact kE hK hs),
     (fun a u hb hs hl hd K hK => by
      have s15 := gD hd 10
      have c2 := cell_up hb c2
      have d2 := cell_up hb d2
      have d6 := cell_up hb d6
      have g14 := vD hd 9
      clear hd
      refine step_yes rfl (j := 9) (d := 14) rfl rfl g14 ?_
      refine op_load_part 37 (.tmp 15) rfl g 4 (gu s15) _ _ #[.int .i64 H.sec, .int .i64 H.ns] _ (hg.after hb) (show (4 + 2 : Nat) ≤ 18 by decide) rfl rfl (by kernel_rfl) rfl ?_
      exact kE hK hs),
     (fun a u hb hs hl hd K hK => by have s3 := gL hl 4; have g14 := vD hd 9; clear hd; refine step_yes rfl (j := 9) (d := 14) rfl rfl g14 ?_; go_simp; exact kE hK hs),
     (fun a u hb hs hl hd K hK => by
      have s17 := gD hd 12
      have c2 := cell_up hb c2
      have d2 := cell_up hb d2
      have d6 := cell_up hb d6
      have g14 := vD hd 9
      clear hd
      refine step_yes rfl (j := 9) (d := 14) rfl rfl g14 ?_
      refine op_load_part 37 (.tmp 17) rfl j 4 (gu s17) _ _ #[.int .i64 J.sec, .int .i64 J.ns] _ (hj.after hb) (show (4 + 2 : Nat) ≤ 18 by decide) rfl rfl (by kernel_rfl) rfl ?_
      exact kE hK hs),
     (fun a u hb hs hl hd K hK => by
      have s16 := gD hd 11
      have s18 := gD hd 13
      have c2 := cell_up hb c2
      have d2 := cell_up hb d2
      have d6 := cell_up hb d6
      have g14 := vD hd 9
      clear hd
      refine step_yes rfl (j := 9) (d := 14) rfl rfl g14 ?_
      go_simp
      refine (c_Ahead _ _ _ _ _).mono ?_
      rintro e w3 ⟨rfl, hb2⟩
      rw [hlb]
      exact hK _ _ hb2 (eq_put hs (by decide))),
     (stp rfl fun a u hb hs hl hd K hK => by have s14 := gD hd 9; have s19 := gD hd 14; clear hd; go_simp; exact kE hK hs),
     (stp rfl fun a u hb hs hl hd K hK => by have s20 := gD hd 15; clear hd; go_simp; exact kE hK hs),
     (fun a u hb hs hl hd K hK => by have s2 := gL hl 3; have c2 := cell_up hb c2; have d2 := cell_up hb d2; have d6 := cell_up hb d6; have g21 := vD hd 16; clear hd; refine step_no rfl (j := 16) (d := 21) rfl rfl g21 (by decide) ?_; exact kE hK hs),
     (fun a u hb hs hl hd K hK => by have s22 := gD hd 17; have g21 := vD hd 16; clear hd; refine step_no rfl (j := 16) (d := 21) rfl rfl g21 (by decide) ?_; exact kE hK hs),
     (fun a u hb hs hl hd K hK => by have s23 := gD hd 18; have g21 := vD hd 16; clear hd; refine step_no rfl (j := 16) (d := 21) rfl rfl g21 (by decide) ?_; exact kE hK hs),
     (fun a u hb hs hl hd K hK => by have s3 := gL hl 4; have g21 := vD hd 16; clear hd; refine step_no rfl (j := 16) (d := 21) rfl rfl g21 (by decide) ?_; exact kE hK hs),
     (fun a u hb hs hl hd K hK => by have s25 := gD hd 20; have g21 := vD hd 16; clear hd; refine step_no rfl (j := 16) (d := 21) rfl rfl g21 (by decide) ?_; exact kE hK hs),
     (fun a u hb hs hl hd K hK => by have s26 := gD hd 21; have c2 := cell_up hb c2; have d2 := cell_up hb d2; have d6 := cell_up hb d6; have g21 := vD hd 16; clear hd; refine step_no rfl (j := 16) (d := 21) rfl rfl g21 (by decide) ?_; exact kE hK hs),
     (fun a u hb hs hl hd K hK => by have s27 := gD hd 22; have g21 := vD hd 16; clear hd; refine step_no rfl (j := 16) (d := 21) rfl rfl g21 (by decide) ?_; exact kE hK hs),
     (fun a u hb hs hl hd K hK => by have s24 := gD hd 19; have s28 := gD hd 23; have g21 := vD hd 16; clear hd; refine step_no rfl (j := 16) (d := 21) rfl rfl g21 (by decide) ?_; exact kE hK hs),
     (stp rfl fun a u hb hs hl hd K hK => by have s21 := gD hd 16; have s29 := gD hd 24; clear hd; go_simp; exact kE hK hs),
     trivial⟩ ?_
   clear hs hd zl
   intro a w hb hs hd zl hh
   replace zl := lH hh 25 zl
   clear hh
   replace hg := hg.after hb
   replace hj := hj.after hb
   replace c2 := cell_up hb c2
   replace d2 := cell_up hb d2
   replace d6 := cell_up hb d6
   replace hB := bz_then hB hb
   clear hb
   show wpList _ _ _ [_] _ _
   refine tail_op rfl (fun K hK => ?_)
   have q30 := gL zl 0
   go_simp
   clear q30
   refine hK _ _ ?_
   clear hK K
   obtain ⟨s30, -, -, -, -, -, -⟩ := zl
   refine act_put (d := 4) _ hs hd (by decide) [(30, _)] ⟨s30, trivial⟩ rfl ?_
   clear hs hd s30
   intro a hs hd zl
   refine wp_ret ?_
   exact end_tmp rfl hd (vL zl 0) ⟨by rw [show backB H J = false by simp [backB, hlb]], hB⟩
  ·obtain ⟨-, -, -, s2, s3, -⟩ := zl
   refine fl2 (F := [(2, _), (3, _)]) [.eq 5 (.agg H.cells), .eq 6 (.bool true), .eq 7 (.bool true), .eq 8 _, .eq 9 _, .eq 10 _, .eq 11 _, .eq 12 _, .eq 13 _, .eq 14 (.bool true), .eq 15 _, .eq 16 (.agg #[.int .i64 H.sec, .int .i64 H.ns]), .eq 17 _, .eq 18 (.agg #[.int .i64 J.sec, .int .i64 J.ns]), .eq 19 (.bool true), .eq 20 _, .eq 21 (.bool true), .eq 22 (.agg H.cells), FItem.bs 23 0 (rootN 20 H.leaves), .eq 24 (.string (strOfNums (rootN 20 H.leaves))), .eq 25 _, .eq 26 _, .eq 27 _, .eq 28 (.string (strOfNums J.bh.l)), .eq 29 _, .eq 30 _] 26 hs hd ⟨s2, s3, trivial⟩
    ⟨(stp rfl fun a u hb hs hl hd K hK => by
      have s2 := gL hl 0
      have c2 := cell_up hb c2
      have d2 := cell_up hb d2
      have d6 := cell_up hb d6
      clear hd
      refine op_load_row 40 (.tmp 2) rfl g (gu s2) _ _ _ (hg.after hb) rfl rfl (by kernel_rfl) ?_
      exact kE hK hs),
     (stp rfl fun a u hb hs hl hd K hK => by
      have s5 := gD hd 0
      have c2 := cell_up hb c2
      have d2 := cell_up hb d2
      have d6 := cell_up hb d6
      clear hd
      go_simp
      refine (c_Formed H _ hht hz).mono ?_
      rintro e w3 ⟨rfl, hb2⟩
      rw [hf]
      exact hK _ _ hb2 (eq_put hs (by decide))),
     (stp rfl fun a u hb hs hl hd K hK => by have s6 := gD hd 1; clear hd; go_simp; exact kE hK hs),
     (fun a u hb hs hl hd K hK => by have s2 := gL hl 0; have g7 := vD hd 2; clear hd; refine step_yes rfl (j := 2) (d := 7) rfl rfl g7 ?_; go_simp; exact kE hK hs),
     (fun a u hb hs hl hd K hK => by have s8 := gD hd 3; have c2 := cell_up hb c2; have d2 := cell_up hb d2; have d6 := cell_up hb d6; have g7 := vD hd 2; clear hd; refine step_yes rfl (j := 2) (d := 7) rfl rfl g7 ?_; go_simp; exact kE hK hs),
     (fun a u hb hs hl hd K hK => by have s3 := gL hl 1; have g7 := vD hd 2; clear hd; refine step_yes rfl (j := 2) (d := 7) rfl rfl g7 ?_; go_simp; exact kE hK hs),
     (fun a u hb hs hl hd K hK => by have s10 := gD hd 5; have c2 := cell_up hb c2; have d2 := cell_up hb d2; have d6 := cell_up hb d6; have g7 := vD hd 2; clear hd; refine step_yes rfl (j := 2) (d := 7) rfl rfl g7 ?_; go_simp; exact kE hK hs),
     (fun a u hb hs hl hd K hK => by have s9 := gD hd 4; have s11 := gD hd 6; have g7 := vD hd 2; clear hd; refine step_yes rfl (j := 2) (d := 7) rfl rfl g7 ?_; go_simp; exact kE hK hs),
     (stp rfl fun a u hb hs hl hd K hK => by have s7 := gD hd 2; have s12 := gD hd 7; clear hd; go_simp; exact kE hK hs),
     (stp rfl fun a u hb hs hl hd K hK => by have s13 := gD hd 8; clear hd; go_simp; exact kE hK hs),
     (fun a u hb hs hl hd K hK => by have s2 := gL hl 0; have g14 := vD hd 9; clear hd; refine step_yes rfl (j := 9) (d := 14) rfl rfl g14 ?_; go_simp; exact kE hK hs),
     (fun a u hb hs hl hd K hK => by
      have s15 := gD hd 10
      have c2 := cell_up hb c2
      have d2 := cell_up hb d2
      have d6 := cell_up hb d6
      have g14 := vD hd 9
      clear hd
      refine step_yes rfl (j := 9) (d := 14) rfl rfl g14 ?_
      refine op_load_part 37 (.tmp 15) rfl g 4 (gu s15) _ _ #[.int .i64 H.sec, .int .i64 H.ns] _ (hg.after hb) (show (4 + 2 : Nat) ≤ 18 by decide) rfl rfl (by kernel_rfl) rfl ?_
      exact kE hK hs),
     (fun a u hb hs hl hd K hK => by have s3 := gL hl 1; have g14 := vD hd 9; clear hd; refine step_yes rfl (j := 9) (d := 14) rfl rfl g14 ?_; go_simp; exact kE hK hs),
     (fun a u hb hs hl hd K hK => by
      have s17 := gD hd 12
      have c2 := cell_up hb c2
      have d2 := cell_up hb d2
      have d6 := cell_up hb d6
      have g14 := vD hd 9
      clear hd
      refine step_yes rfl (j := 9) (d := 14) rfl rfl g14 ?_
      refine op_load_part 37 (.tmp 17) rfl j 4 (gu s17) _ _ #[.int .i64 J.sec, .int .i64 J.ns] _ (hj.after hb) (show (4 + 2 : Nat) ≤ 18 by decide) rfl rfl (by kernel_rfl) rfl ?_
      exact kE hK hs),
     (fun a u hb hs hl hd K hK => by
      have s16 := gD hd 11
      have s18 := gD hd 13
      have c2 := cell_up hb c2
      have d2 := cell_up hb d2
      have d6 := cell_up hb d6
      have g14 := vD hd 9
      clear hd
      refine step_yes rfl (j := 9) (d := 14) rfl rfl g14 ?_
      go_simp
      refine (c_Ahead _ _ _ _ _).mono ?_
      rintro e w3 ⟨rfl, hb2⟩
      rw [hlb]
      exact hK _ _ hb2 (eq_put hs (by decide))),
     (stp rfl fun a u hb hs hl hd K hK => by have s14 := gD hd 9; have s19 := gD hd 14; clear hd; go_simp; exact kE hK hs),
     (stp rfl fun a u hb hs hl hd K hK => by have s20 := gD hd 15; clear hd; go_simp; exact kE hK hs),
     (fun a u hb hs hl hd K hK => by
      have s2 := gL hl 0
      have c2 := cell_up hb c2
      have d2 := cell_up hb d2
      have d6 := cell_up hb d6
      have g21 := vD hd 16
      clear hd
      refine step_yes rfl (j := 16) (d := 21) rfl rfl g21 ?_
      refine op_load_row 40 (.tmp 2) rfl g (gu s2) _ _ _ (hg.after hb) rfl rfl (by kernel_rfl) ?_
      exact kE hK hs),
     (fun a u hb hs hl hd K hK => by
      have s22 := gD hd 17
      have c2 := cell_up hb c2
      have d2 := cell_up hb d2
      have d6 := cell_up hb d6
      have g21 := vD hd 16
      clear hd
      refine step_yes rfl (j := 16) (d := 21) rfl rfl g21 ?_
      go_simp
      refine (c_HeaderSum H _ hn (hk.after (bz_then hB hb)) hne).mono ?_
      rintro e w3 ⟨v, rfl, hv, hb2⟩
      exact hK _ _ hb2 (bs_put hs (by decide) (hv.less (Nat.zero_le _)))),
     (fun a u hb hs hl hd K hK => by
      have i23 := FItem.bs_holds.1 (dep_get0 hd 18 (by kernel_rfl))
      obtain ⟨v23, e23⟩ : ∃ v, Is (a.tmps.getD 23 undef) v := is_self _
      rw [e23.out] at i23
      have s23 := gd e23.out
      have c2 := cell_up hb c2
      have d2 := cell_up hb d2
      have d6 := cell_up hb d6
      have g21 := vD hd 16
      clear hd
      refine step_yes rfl (j := 16) (d := 21) rfl rfl g21 ?_
      obtain ⟨x23, A23, k23, hx23, rfl, f23, n23, b23, -⟩ := i23
      have kc := run_conv_bs f23 b23 23 9 Tryd.underlying23 Tryd.underlying9
      rw [show x23 = rootN 20 H.leaves from hx23.out] at kc
      rw [show x23 = rootN 20 H.leaves from hx23.out] at s23
      go_simp
      exact kE hK hs),
     (fun a u hb hs hl hd K hK => by have s3 := gL hl 1; have g21 := vD hd 16; clear hd; refine step_yes rfl (j := 16) (d := 21) rfl rfl g21 ?_; go_simp; exact kE hK hs),
     (fun a u hb hs hl hd K hK => by have s25 := gD hd 20; have g21 := vD hd 16; clear hd; refine step_yes rfl (j := 16) (d := 21) rfl rfl g21 ?_; go_simp; exact kE hK hs),
     (fun a u hb hs hl hd K hK => by have s26 := gD hd 21; have c2 := cell_up hb c2; have d2 := cell_up hb d2; have d6 := cell_up hb d6; have g21 := vD hd 16; clear hd; refine step_yes rfl (j := 16) (d := 21) rfl rfl g21 ?_; go_simp; exact kE hK hs),
     (fun a u hb hs hl hd K hK => by
      have s27 := gD hd 22
      have c2 := cell_up hb c2
      have d2 := cell_up hb d2
      have d6 := cell_up hb d6
      have g21 := vD hd 16
      clear hd
      refine step_yes rfl (j := 16) (d := 21) rfl rfl g21 ?_
      have hl2 := (hJk.after (bz_then hB hb)).bh
      have kc := run_conv_bs hl2.fm hl2.bs 23 9 Tryd.underlying23 Tryd.underlying9
      go_simp
      exact kE hK hs),
     (fun a u hb hs hl hd K hK => by have s24 := gD hd 19; have s28 := gD hd 23; have g21 := vD hd 16; clear hd; refine step_yes rfl (j := 16) (d := 21) rfl rfl g21 ?_; go_simp; exact kE hK hs),
     (stp rfl fun a u hb hs hl hd K hK => by have s21 := gD hd 16; have s29 := gD hd 24; clear hd; go_simp; exact kE hK hs),
     trivial⟩ ?_
   clear hs hd s2 s3
   intro a w hb hs hd zl hh
   replace zl := lH hh 25 zl
   clear hh
   replace hg := hg.after hb
   replace hj := hj.after hb
   replace c2 := cell_up hb c2
   replace d2 := cell_up hb d2
   replace d6 := cell_up hb d6
   replace hB := bz_then hB hb
   clear hb
   show wpList _ _ _ [_] _ _
   refine tail_op rfl (fun K hK => ?_)
   have q30 := gL zl 0
   go_simp
   clear q30
   refine hK _ _ (tP hs hd zl ?_)
   clear hK K hs hd zl
   intro a hs hd zl
   refine wp_ret ?_
   exact end_tmp rfl hd (vL zl 0) ⟨by rw [show backB H J = ((strOfNums (rootN 20 H.leaves)).toList == (strOfNums J.bh.l).toList) from (by have := eqB_str (rootN_bytes 20 H.leaves) hJk.bh.b8; unfold eqB at this; rw [this]; simp [backB, hf, h1, hlb])], hB⟩
 ·have h1f : eqB H.ch J.ch = false := by simpa using h1
  have h1' : (H.ch.toList == J.ch.toList) = false := h1f
  refine fl2 [.eq 5 (.agg H.cells), .eq 6 (.bool true), .eq 7 (.bool true), .eq 8 _, .eq 9 _, .eq 10 _, .eq 11 _, .eq 12 _, .eq 13 _, .eq 14 (.bool false), .eq 15 _, .eq 16 _, .eq 17 _, .eq 18 _, .eq 19 _, .eq 20 _, .eq 21 (.bool false), .eq 22 _, .eq 23 _, .eq 24 _, .eq 25 _, .eq 26 _, .eq 27 _, .eq 28 _, .eq 29 _, .eq 30 _] 26 hs hd zl
   ⟨(stp rfl fun a u hb hs hl hd K hK => by
     have s2 := gL hl 3
     have c2 := cell_up hb c2
     have d2 := cell_up hb d2
     have d6 := cell_up hb d6
     clear hd
     refine op_load_row 40 (.tmp 2) rfl g (gu s2) _ _ _ (hg.after hb) rfl rfl (by kernel_rfl) ?_
     exact kE hK hs),
    (stp rfl fun a u hb hs hl hd K hK => by
     have s5 := gD hd 0
     have c2 := cell_up hb c2
     have d2 := cell_up hb d2
     have d6 := cell_up hb d6
     clear hd
     go_simp
     refine (c_Formed H _ hht hz).mono ?_
     rintro e w3 ⟨rfl, hb2⟩
     rw [hf]
     exact hK _ _ hb2 (eq_put hs (by decide))),
    (stp rfl fun a u hb hs hl hd K hK => by have s6 := gD hd 1; clear hd; go_simp; exact kE hK hs),
    (fun a u hb hs hl hd K hK => by have s2 := gL hl 3; have g7 := vD hd 2; clear hd; refine step_yes rfl (j := 2) (d := 7) rfl rfl g7 ?_; go_simp; exact kE hK hs),
    (fun a u hb hs hl hd K hK => by have s8 := gD hd 3; have c2 := cell_up hb c2; have d2 := cell_up hb d2; have d6 := cell_up hb d6; have g7 := vD hd 2; clear hd; refine step_yes rfl (j := 2) (d := 7) rfl rfl g7 ?_; go_simp; exact kE hK hs),
    (fun a u hb hs hl hd K hK => by have s3 := gL hl 4; have g7 := vD hd 2; clear hd; refine step_yes rfl (j := 2) (d := 7) rfl rfl g7 ?_; go_simp; exact kE hK hs),
    (fun a u hb hs hl hd K hK => by have s10 := gD hd 5; have c2 := cell_up hb c2; have d2 := cell_up hb d2; have d6 := cell_up hb d6; have g7 := vD hd 2; clear hd; refine step_yes rfl (j := 2) (d := 7) rfl rfl g7 ?_; go_simp; exact kE hK hs),
    (fun a u hb hs hl hd K hK => by have s9 := gD hd 4; have s11 := gD hd 6; have g7 := vD hd 2; clear hd; refine step_yes rfl (j := 2) (d := 7) rfl rfl g7 ?_; go_simp; exact kE hK hs),
    (stp rfl fun a u hb hs hl hd K hK => by have s7 := gD hd 2; have s12 := gD hd 7; clear hd; go_simp; exact kE hK hs),
    (stp rfl fun a u hb hs hl hd K hK => by have s13 := gD hd 8; clear hd; go_simp; exact kE hK hs),
    (fun a u hb hs hl hd K hK => by have s2 := gL hl 3; have g14 := vD hd 9; clear hd; refine step_no rfl (j := 9) (d := 14) rfl rfl g14 (by decide) ?_; exact kE hK hs),
    (fun a u hb hs hl hd K hK => by have s15 := gD hd 10; have c2 := cell_up hb c2; have d2 := cell_up hb d2; have d6 := cell_up hb d6; have g14 := vD hd 9; clear hd; refine step_no rfl (j := 9) (d := 14) rfl rfl g14 (by decide) ?_; exact kE hK hs),
    (fun a u hb hs hl hd K hK => by have s3 := gL hl 4; have g14 := vD hd 9; clear hd; refine step_no rfl (j := 9) (d := 14) rfl rfl g14 (by decide) ?_; exact kE hK hs),
    (fun a u hb hs hl hd K hK => by have s17 := gD hd 12; have c2 := cell_up hb c2; have d2 := cell_up hb d2; have d6 := cell_up hb d6; have g14 := vD hd 9; clear hd; refine step_no rfl (j := 9) (d := 14) rfl rfl g14 (by decide) ?_; exact kE hK hs),
    (fun a u hb hs hl hd K hK => by have s16 := gD hd 11; have s18 := gD hd 13; have g14 := vD hd 9; clear hd; refine step_no rfl (j := 9) (d := 14) rfl rfl g14 (by decide) ?_; exact kE hK hs),
    (stp rfl fun a u hb hs hl hd K hK => by have s14 := gD hd 9; have s19 := gD hd 14; clear hd; go_simp; exact kE hK hs),
    (stp rfl fun a u hb hs hl hd K hK => by have s20 := gD hd 15; clear hd; go_simp; exact kE hK hs),
    (fun a u hb hs hl hd K hK => by have s2 := gL hl 3; have c2 := cell_up hb c2; have d2 := cell_up hb d2; have d6 := cell_up hb d6; have g21 := vD hd 16; clear hd; refine step_no rfl (j := 16) (d := 21) rfl rfl g21 (by decide) ?_; exact kE hK hs),
    (fun a u hb hs hl hd K hK => by have s22 := gD hd 17; have g21 := vD hd 16; clear hd; refine step_no rfl (j := 16) (d := 21) rfl rfl g21 (by decide) ?_; exact kE hK hs),
    (fun a u hb hs hl hd K hK => by have s23 := gD hd 18; have g21 := vD hd 16; clear hd; refine step_no rfl (j := 16) (d := 21) rfl rfl g21 (by decide) ?_; exact kE hK hs),
    (fun a u hb hs hl hd K hK => by have s3 := gL hl 4; have g21 := vD hd 16; clear hd; refine step_no rfl (j := 16) (d := 21) rfl rfl g21 (by decide) ?_; exact kE hK hs),
    (fun a u hb hs hl hd K hK => by have s25 := gD hd 20; have g21 := vD hd 16; clear hd; refine step_no rfl (j := 16) (d := 21) rfl rfl g21 (by decide) ?_; exact kE hK hs),
    (fun a u hb hs hl hd K hK => by have s26 := gD hd 21; have c2 := cell_up hb c2; have d2 := cell_up hb d2; have d6 := cell_up hb d6; have g21 := vD hd 16; clear hd; refine step_no rfl (j := 16) (d := 21) rfl rfl g21 (by decide) ?_; exact kE hK hs),
    (fun a u hb hs hl hd K hK => by have s27 := gD hd 22; have g21 := vD hd 16; clear hd; refine step_no rfl (j := 16) (d := 21) rfl rfl g21 (by decide) ?_; exact kE hK hs),
    (fun a u hb hs hl hd K hK => by have s24 := gD hd 19; have s28 := gD hd 23; have g21 := vD hd 16; clear hd; refine step_no rfl (j := 16) (d := 21) rfl rfl g21 (by decide) ?_; exact kE hK hs),
    (stp rfl fun a u hb hs hl hd K hK => by have s21 := gD hd 16; have s29 := gD hd 24; clear hd; go_simp; exact kE hK hs),
    trivial⟩ ?_
  clear hs hd zl
  intro a w hb hs hd zl hh
  replace zl := lH hh 25 zl
  clear hh
  replace hg := hg.after hb
  replace hj := hj.after hb
  replace c2 := cell_up hb c2
  replace d2 := cell_up hb d2
  replace d6 := cell_up hb d6
  replace hB := bz_then hB hb
  clear hb
  show wpList _ _ _ [_] _ _
  refine tail_op rfl (fun K hK => ?_)
  have q30 := gL zl 0
  go_simp
  clear q30
  refine hK _ _ ?_
  clear hK K
  obtain ⟨s30, -, -, -, -, -, -⟩ := zl
  refine act_put (d := 4) _ hs hd (by decide) [(30, _)] ⟨s30, trivial⟩ rfl ?_
  clear hs hd s30
  intro a hs hd zl
  refine wp_ret ?_
  exact end_tmp rfl hd (vL zl 0) ⟨by rw [show backB H J = false by simp [backB, h1f]], hB⟩
end Go.Proofs.YtcmllcmcbamlbaaDoor
namespace Go.Proofs.YtcmllcmcbamlbaaDoor
open Go.RowKit
/-- Two seats clash: one key, or one address. -/
def sameB (s : Seat) (ad : ByteArray) (x : Seat) : Bool := eqB x.k s.k || eqB x.a ad
theorem c_set1 (x s : Seat) (ad : ByteArray) (gs ga : Nat) (t : TypeId) (w : World) (hgs : Blk w gs 47 s.cells.toArray) (hga : Blk w ga t #[.string ad]) :
  Calls Tryd.prog 15 #[.agg x.cells.toArray, .pointer (some ⟨gs, 0, none⟩), .pointer (some ⟨ga, 0, none⟩)] w fun e w' => e = .returned (.bool (sameB s ad x)) ∧ Below w.heap.size w w' := by
 have hs := hgs.alloc (.cells #[.string x.a, .string x.k, .int .i64 x.p, .int .i64 x.q] 50)
 have ha := hga.alloc (.cells #[.string x.a, .string x.k, .int .i64 x.p, .int .i64 x.q] 50)
 have c1 := hs.cell 1
 have c2 := ha.cell 0
 have hz1 := hgs.lt
 have hz2 := hga.lt
 unfold Seat.cells at *
 obtain ⟨b, hb⟩ : ∃ b, eqB x.k s.k = b := ⟨_, rfl⟩
 obtain ⟨d, hd⟩ : ∃ d, eqB x.a ad = d := ⟨_, rfl⟩
 have hfin : Is (sameB s ad x) (b || d) := by unfold Is sameB; rw [hb, hd]
 unfold eqB at hb hd
 clear hs ha
 rw [hfin.out]
 cases b
 all_goals
  go_enter Tryd.func15, Tryd.ntmps15
  go_wp2
  go_ret
  exact ⟨rfl, by (repeat' (first | exact Below.refl _ _ | exact Nat.le_refl _ | (with_reducible assumption) | refine Below.setCell ?_ ?_ _ | refine Below.alloc ?_ ?_ _ | refine below_drewN ?_ _ | refine Below.drew ?_ | (simp; done) | omega | (simp; omega) | (simp at *; omega)))⟩
def fit2B (s : Seat) : Bool := decide (s.a.size ≤ 2147483647) && decide (s.k.size ≤ 2147483647)
theorem c_zzFits2 (s : Seat) (w : World) :
  Calls Tryd.prog 13 #[.agg s.cells.toArray] w fun e w' => e = .returned (.bool (fit2B s)) ∧ Below w.heap.size w w' := by
 unfold Seat.cells
 by_cases h1 : s.a.size ≤ 2147483647
 ·by_cases h2 : s.k.size ≤ 2147483647
  ·have e1 : decide (2147483647 < s.a.size) = false := decide_eq_false (by omega)
   have e2 : decide (2147483647 < s.k.size) = false := decide_eq_false (by omega)
   have e1' : decide ((2147483647 : Int) < (s.a.size : Int)) = false := decide_eq_false (by omega)
   have e2' : decide ((2147483647 : Int) < (s.k.size : Int)) = false := decide_eq_false (by omega)
   rw [show fit2B s = true by simp [fit2B, h1, h2]]
   go_enter Tryd.func13, Tryd.ntmps13
   go_wp2
   go_ret
   exact ⟨rfl, by (repeat' (first | exact Below.refl _ _ | exact Nat.le_refl _ | (with_reducible assumption) | refine Below.setCell ?_ ?_ _ | refine Below.alloc ?_ ?_ _ | refine below_drewN ?_ _ | refine Below.drew ?_ | (simp; done) | omega | (simp; omega) | (simp at *; omega)))⟩
  ·have e1 : decide (2147483647 < s.a.size) = false := decide_eq_false (by omega)
   have e2 : decide (2147483647 < s.k.size) = true := decide_eq_true (by omega)
   have e1' : decide ((2147483647 : Int) < (s.a.size : Int)) = false := decide_eq_false (by omega)
   have e2' : decide ((2147483647 : Int) < (s.k.size : Int)) = true := decide_eq_true (by omega)
   rw [show fit2B s = false by simp [fit2B, h2]]
   go_enter Tryd.func13, Tryd.ntmps13
   go_wp2
   go_ret
   exact ⟨rfl, by (repeat' (first | exact Below.refl _ _ | exact Nat.le_refl _ | (with_reducible assumption) | refine Below.setCell ?_ ?_ _ | refine Below.alloc ?_ ?_ _ | refine below_drewN ?_ _ | refine Below.drew ?_ | (simp; done) | omega | (simp; omega) | (simp at *; omega)))⟩
 ·have e1 : decide (2147483647 < s.a.size) = true := decide_eq_true (by omega)
  have e1' : decide ((2147483647 : Int) < (s.a.size : Int)) = true := decide_eq_true (by omega)
  rw [show fit2B s = false by simp [fit2B, h1]]
  go_enter Tryd.func13, Tryd.ntmps13
  go_wp2
  go_ret
  exact ⟨rfl, by (repeat' (first | exact Below.refl _ _ | exact Nat.le_refl _ | (with_reducible assumption) | refine Below.setCell ?_ ?_ _ | refine Below.alloc ?_ ?_ _ | refine below_drewN ?_ _ | refine Below.drew ?_ | (simp; done) | omega | (simp; omega) | (simp at *; omega)))⟩
/-- Where a predicate holds first. -/
def idxB (p : Seat → Bool) (S : List Seat) : Int := match S.findIdx? p with | some i => (i : Int) | none => -1
theorem idxB_at {p : Seat → Bool} {S : List Seat} {k : Nat} {s : Seat} (h : S[k]? = some s) (hp : p s = true) (hb : ∀ i x, i < k → S[i]? = some x → p x = false) : idxB p S = k := by
 have : S.findIdx? p = some k := by
  rw [List.findIdx?_eq_some_iff_getElem]
  have hk : k < S.length := (List.getElem?_eq_some_iff.1 h).1
  refine ⟨hk, ?_, fun j hj => ?_⟩
  ·rw [(List.getElem?_eq_some_iff.1 h).2]; exact hp
  ·have hjl : j < S.length := by omega
   rw [hb j S[j] hj (List.getElem?_eq_getElem hjl)]
   decide
 unfold idxB
 rw [this]
theorem idxB_none {p : Seat → Bool} {S : List Seat} (hb : ∀ i x, i < S.length → S[i]? = some x → p x = false) : idxB p S = -1 := by
 have : S.findIdx? p = none := by
  rw [List.findIdx?_eq_none_iff]
  intro x hx
  obtain ⟨i, hi⟩ := List.getElem?_of_mem hx
  exact hb i x (List.getElem?_eq_some_iff.1 hi).1 hi
 unfold idxB
 rw [this]
theorem idxB_any (p : Seat → Bool) (S : List Seat) : decide (0 ≤ idxB p S) = S.any p := by
 unfold idxB
 cases h : S.findIdx? p with
 | none =>
  rw [List.findIdx?_eq_none_iff] at h
  have : S.any p = false := by rw [List.any_eq_false]; intro x hx; rw [h x hx]; decide
  rw [this]
  rfl
 | some i =>
  rw [List.findIdx?_eq_some_iff_getElem] at h
  obtain ⟨hi, hp, _⟩ := h
  have : S.any p = true := List.any_eq_true.2 ⟨S[i], List.getElem_mem hi, hp⟩
  rw [this]
  show decide ((0 : Int) ≤ (i : Int)) = true
  exact decide_eq_true (by omega)
theorem idxB_lt (p : Seat → Bool) (S : List Seat) : -1 ≤ idxB p S ∧ idxB p S < S.length := by
 unfold idxB
 cases h : S.findIdx? p with
 | none => show -1 ≤ (-1 : Int) ∧ (-1 : Int) < _; omega
 | some i =>
  rw [List.findIdx?_eq_some_iff_getElem] at h
  obtain ⟨hi, _⟩ := h
  show -1 ≤ (i : Int) ∧ (i : Int) < _
  omega
end Go.Proofs.YtcmllcmcbamlbaaDoor
namespace Go.Proofs.YtcmllcmcbamlbaaDoor
open Go.RowKit
def fitsB (L : List Seat) : Bool := decide (L.length ≤ 2147483647) && L.all fit2B
theorem fitsB_k {L : List Seat} (h : fitsB L = true) : ∀ s ∈ L, s.k.size ≤ 2147483647 := fun s hs => by
 unfold fitsB at h
 rw [Bool.and_eq_true, List.all_eq_true] at h
 have := h.2 s hs
 unfold fit2B at this
 rw [Bool.and_eq_true, decide_eq_true_eq, decide_eq_true_eq] at this
 exact this.2

set_option maxHeartbeats 4000000 in
set_option maxRecDepth 100000 in
theorem c_zzFits1 (L : List Seat) (A : Option Addr) (c : Nat) (w : World) (hL : SeatsAt w A L) :
  Calls Tryd.prog 4 #[.slice A L.length c] w fun e w' => e = .returned (.bool (fitsB L)) ∧ Below w.heap.size w w' := by
 suffices h : ∀ w0, (SeatsAt w0 A L) → Below w0.heap.size w0 w → Calls Tryd.prog 4 #[.slice A L.length c] w fun e w' => e = .returned (.bool (fitsB L)) ∧ Below w0.heap.size w0 w' from h w hL (bz_refl w)
 clear hL
 intro w0 hL hB
 refine enter_abs Tryd.func4 rfl 18 rfl (by simp) ?_
 intro a hs hd hargs
 have s0 := hargs 0 _ rfl
 clear hargs
 refine wp_seq ?_
 refine wp_region_list ?_
 show wpList _ _ _ [_] _ _
 refine tail_op rfl (fun K hK => ?_)
 go_simp
 refine hK _ _ ?_
 clear hK K
 refine act_put (d := 2) _ hs hd (by decide) [(0, _)] ⟨s0, trivial⟩ rfl ?_
 clear hs hd s0
 intro a hs hd zl
 by_cases hbig : L.length ≤ 2147483647
 ·have e0 : decide (2147483647 < L.length) = false := decide_eq_false (by omega)
  have e0' : decide ((2147483647 : Int) < (L.length : Int)) = false := decide_eq_false (by omega)
  refine wp_seq ?_
  refine wp_seq ?_
  refine wp_region_list ?_
  show wpList _ _ _ [_, _, _] _ _
  refine tail_op rfl (fun K hK => ?_)
  have q0 := gL zl 1
  go_simp
  clear q0
  refine hK _ _ (tP hs hd zl ?_)
  clear hK K hs hd zl
  intro a hs hd zl
  refine tail_op rfl (fun K hK => ?_)
  have q5 := gL zl 0
  go_simp
  clear q5
  refine hK _ _ (tP hs hd zl ?_)
  clear hK K hs hd zl
  intro a hs hd zl
  refine tail_op rfl (fun K hK => ?_)
  have q6 := gL zl 0
  go_simp
  clear q6
  refine hK _ _ (tP hs hd zl ?_)
  clear hK K hs hd zl
  intro a hs hd zl
  refine wp_cond_false (vL zl 0) ?_
  refine wp_skip ?_
  clear e0 e0'
  refine wp_seq ?_
  refine wp_seq ?_
  refine wp_region_list ?_
  show wpList _ _ _ [_, _, _] _ _
  refine tail_op rfl (fun K hK => ?_)
  have q0 := gL zl 4
  go_simp
  clear q0
  refine hK _ _ (tP hs hd zl ?_)
  clear hK K hs hd zl
  intro a hs hd zl
  refine tail_op rfl (fun K hK => ?_)
  have q8 := gL zl 0
  go_simp
  clear q8
  refine hK _ _ (tP hs hd zl ?_)
  clear hK K hs hd zl
  intro a hs hd zl
  refine tail_op rfl (fun K hK => ?_)
  go_simp
  refine hK _ _ (tP hs hd zl ?_)
  clear hK K hs hd zl
  intro a hs hd zl
  refine wp_block ?_
  obtain ⟨s10, s9, s8, -, -, -, -, -, -⟩ := zl
  refine wp_loop (fun a w => ∃ (k : Nat), SzIs a 18 ∧ DfNil a ∧ LiveAll [(8, .slice A L.length c), (9, .int .i64 ((L.length : Nat) : Int)), (10, .int .i64 ((k : Nat) : Int))] a ∧ (k ≤ L.length) ∧ (Below w0.heap.size w0 w) ∧ (∀ i x, i < k → L[i]? = some x → fit2B x = true))
   (fun a _ => L.length - (intOf (a.tmps.getD 10 undef)).toNat) ⟨0, hs, hd, ⟨s8, s9, s10, trivial⟩, Nat.zero_le _, hB, (fun i x h => absurd h (Nat.not_lt_zero i))⟩ ?_
  clear hs hd s8 s9 s10
  rintro a w ⟨k, hs, hd, ⟨s8, s9, s10, -⟩, hk, hB, hal⟩
  have hm : (intOf (a.tmps.getD 10 undef)).toNat = k := by rw [s10]; simp [intOf]
  rw [hm]
  clear hm
  have HAL := Is.hid hal
  clear hal
  by_cases hlt : k < L.length
  ·have e1 : decide (k < L.length) = true := decide_eq_true hlt
   have e2 : decide ((k : Int) < (L.length : Int)) = true := decide_eq_true (by omega)
   have ew : IntKind.i64.wrap ((k : Int) + 1) = ((k + 1 : Nat) : Int) := by rw [IntWalk.i64_in _ (by omega)]; omega
   obtain ⟨x, hxk⟩ : ∃ x, L[k]? = some x := ⟨L[k]'hlt, List.getElem?_eq_getElem hlt⟩
   have HX := Is.hid hxk
   obtain ⟨b, o, rfl, hb0, hcells⟩ := (hL.after hB).at_ (by omega)
   have hck := hcells k x hxk
   clear hcells hxk
   refine wp_seq ?_
   refine wp_region_list ?_
   show wpList _ _ _ [_] _ _
   refine tail_op rfl (fun K hK => ?_)
   have q9 := gd s9
   have q10 := gd s10
   go_simp
   clear q9 q10
   refine hK _ _ ?_
   clear hK K
   refine act_put (d := 11) _ hs hd (by decide) [(8, _), (9, _), (10, _)] ⟨s8, s9, s10, trivial⟩ rfl ?_
   clear hs hd s8 s9 s10
   intro a hs hd zl
   refine wp_seq ?_
   refine wp_cond_true (vL zl 0) ?_
   refine wp_skip ?_
   refine wp_seq ?_
   refine wp_block ?_
   refine wp_seq ?_
   refine wp_region_list ?_
   show wpList _ _ _ [_, _, _, _] _ _
   refine tail_op rfl (fun K hK => ?_)
   have q8 := gL zl 1
   have q10 := gL zl 3
   go_simp
   clear q8 q10
   refine hK _ _ (tP hs hd zl ?_)
   clear hK K hs hd zl
   intro a hs hd zl
   refine tail_op rfl (fun K hK => ?_)
   have q12 := gL zl 0
   have s12 := vL zl 0
   refine op_load_cells 47 (.tmp 12) rfl b _ s12 x.cells _ hck rfl rfl (by kernel_rfl) ?_
   clear q12
   refine hK _ _ (tP hs hd zl ?_)
   clear hK K hs hd zl s12
   intro a hs hd zl
   refine tail_op rfl (fun K hK => ?_)
   go_simp
   refine hK _ _ (tP hs hd zl ?_)
   clear hK K hs hd zl
   intro a hs hd zl
   refine tail_op rfl (fun K hK => ?_)
   have q4 := gL zl 0
   have q13 := gL zl 1
   have s4 := vL zl 0
   have s13 := vL zl 1
   refine op_store_row 47 (.tmp 4) (.tmp 13) rfl w.heap.size s4 _ s13 47 _ (Blk.new w _ _) rfl (by kernel_rfl) (seat_one x) ?_
   clear q4 q13
   refine hK _ _ ?_
   clear hK K
   change wpList _ _ _ _ a _
   rw [setRow_alloc_at _ _ _ _ _ rfl]
   obtain ⟨g5, hE⟩ : ∃ B, Is w.heap.size B := is_self _
   generalize hw1 : World.alloc w _ = w1
   have hg5 : Blk w1 g5 47 x.cells.toArray := by rw [← hw1, ← hE.out]; exact Blk.new w _ _
   have hB1 : Below w.heap.size w w1 := by rw [← hw1]; exact bz_alloc (bz_refl w) _
   replace hB := bz_then hB hB1
   clear s4 s13
   obtain ⟨s4, s13, s12, s11, s8, s9, s10, -⟩ := zl
   rw [hE.out] at s4
   clear hw1 hB1 hE
   clear hck
   clear s11 s12 s13
   refine wp_seq ?_
   refine wp_region_list ?_
   show wpList _ _ _ [_, _, _] _ _
   refine tail_op rfl (fun K hK => ?_)
   have q4 := gd s4
   refine op_load_row 47 (.tmp 4) rfl g5 s4 _ _ _ hg5 rfl rfl (by kernel_rfl) ?_
   clear q4
   refine hK _ _ ?_
   clear hK K
   refine act_put (d := 14) _ hs hd (by decide) [(4, _), (8, _), (9, _), (10, _)] ⟨s4, s8, s9, s10, trivial⟩ rfl ?_
   clear hs hd s4 s8 s9 s10
   intro a hs hd zl
   refine tail_op rfl (fun K hK => ?_)
   have q14 := gL zl 0
   go_simp
   refine (c_zzFits2 x _).mono ?_
   rintro e w3 ⟨rfl, hb2⟩
   obtain ⟨pb, hpb⟩ : ∃ b, fit2B x = b := ⟨_, rfl⟩
   have HPB := Is.hid hpb
   rw [hpb]
   clear hpb
   clear q14
   refine hK _ _ (tP hs hd zl ?_)
   clear hK K hs hd zl
   intro a hs hd zl
   replace hB := bz_then hB hb2
   clear hb2
   refine tail_op rfl (fun K hK => ?_)
   have q15 := gL zl 0
   go_simp
   clear q15
   refine hK _ _ (tP hs hd zl ?_)
   clear hK K hs hd zl
   intro a hs hd zl
   cases pb
   ·refine wp_cond_true (vL zl 0) ?_
    refine wp_seq ?_
    refine wp_region_list ?_
    show wpList _ _ _ [_] _ _
    refine tail_op rfl (fun K hK => ?_)
    go_simp
    refine hK _ _ (tP hs hd zl ?_)
    clear hK K hs hd zl
    intro a hs hd zl
    refine wp_ret ?_
    repeat first | refine then_ret ?_ | refine inBlock_ret ?_
    exact end_tmp rfl hd (vL zl 0) ⟨by rw [show fitsB L = false from (by unfold fitsB; rw [Bool.and_eq_false_iff]; right; rw [List.all_eq_false]; exact ⟨x, List.mem_of_getElem? HX.out, by rw [HPB.out]; decide⟩)], hB⟩
   refine wp_cond_false (vL zl 0) ?_
   refine wp_skip ?_
   refine wp_region_list ?_
   show wpList _ _ _ [_, _] _ _
   refine tail_op rfl (fun K hK => ?_)
   have q10 := gL zl 6
   go_simp
   clear q10
   refine hK _ _ (tP hs hd zl ?_)
   clear hK K hs hd zl
   intro a hs hd zl
   refine tail_op rfl (fun K hK => ?_)
   have q17 := gL zl 0
   go_simp
   clear q17
   refine hK _ _ ?_
   clear hK K
   obtain ⟨s17, s16, -, -, -, s8, s9, s10, -⟩ := zl
   refine act_put (d := 10) _ hs hd (by decide) [(8, _), (9, _), (16, _), (17, _)] ⟨s8, s9, s16, s17, trivial⟩ rfl ?_
   clear hs hd s8 s9 s10 s16 s17
   intro a hs hd zl
   obtain ⟨s10, s8, s9, -, -, -⟩ := zl
   refine ⟨⟨k + 1, hs, hd, ⟨s8, s9, s10, trivial⟩, hlt, hB, (fun i y hi hy => by
    rcases Nat.lt_or_ge i k with h | h
    ·exact HAL.out i y h hy
    ·obtain rfl : i = k := by omega
     rw [HX.out] at hy
     injection hy with hy
     rw [← hy]; exact HPB.out)⟩, ?_⟩
   rw [s10]
   simp [intOf]
   omega
  obtain rfl : k = L.length := by omega
  have e1 : decide (L.length < L.length) = false := decide_eq_false (by omega)
  refine wp_seq ?_
  refine wp_region_list ?_
  show wpList _ _ _ [_] _ _
  refine tail_op rfl (fun K hK => ?_)
  have q9 := gd s9
  have q10 := gd s10
  go_simp
  clear q9 q10
  refine hK _ _ ?_
  clear hK K
  refine act_put (d := 11) _ hs hd (by decide) [(8, _), (9, _), (10, _)] ⟨s8, s9, s10, trivial⟩ rfl ?_
  clear hs hd s8 s9 s10
  intro a hs hd zl
  refine wp_seq ?_
  refine wp_cond_false (vL zl 0) ?_
  refine wp_exit ?_
  repeat refine then_exit ?_
  refine inBlock_exit ?_
  refine wp_seq ?_
  refine wp_region_list ?_
  show wpList _ _ _ [_] _ _
  refine tail_op rfl (fun K hK => ?_)
  go_simp
  refine hK _ _ (tP hs hd zl ?_)
  clear hK K hs hd zl
  intro a hs hd zl
  refine wp_ret ?_
  have s2 := vL zl 0
  exact end_tmp rfl hd s2 ⟨by rw [show fitsB L = true from (by unfold fitsB; rw [Bool.and_eq_true, List.all_eq_true]; exact ⟨decide_eq_true hbig, fun s hs' => by
   obtain ⟨i, hi⟩ := List.getElem?_of_mem hs'
   exact HAL.out i s (List.getElem?_eq_some_iff.1 hi).1 hi⟩)], hB⟩
 have e0 : decide (2147483647 < L.length) = true := decide_eq_true (by omega)
 have e0' : decide ((2147483647 : Int) < (L.length : Int)) = true := decide_eq_true (by omega)
 refine wp_seq ?_
 refine wp_seq ?_
 refine wp_region_list ?_
 show wpList _ _ _ [_, _, _] _ _
 refine tail_op rfl (fun K hK => ?_)
 have q0 := gL zl 1
 go_simp
 clear q0
 refine hK _ _ (tP hs hd zl ?_)
 clear hK K hs hd zl
 intro a hs hd zl
 refine tail_op rfl (fun K hK => ?_)
 have q5 := gL zl 0
 go_simp
 clear q5
 refine hK _ _ (tP hs hd zl ?_)
 clear hK K hs hd zl
 intro a hs hd zl
 refine tail_op rfl (fun K hK => ?_)
 have q6 := gL zl 0
 go_simp
 clear q6
 refine hK _ _ (tP hs hd zl ?_)
 clear hK K hs hd zl
 intro a hs hd zl
 refine wp_cond_true (vL zl 0) ?_
 refine wp_seq ?_
 refine wp_region_list ?_
 show wpList _ _ _ [_] _ _
 refine tail_op rfl (fun K hK => ?_)
 go_simp
 refine hK _ _ ?_
 clear hK K
 obtain ⟨s7, -, -, -, -, -⟩ := zl
 refine act_put (d := 2) _ hs hd (by decide) [(7, _)] ⟨s7, trivial⟩ rfl ?_
 clear hs hd s7
 intro a hs hd zl
 refine wp_ret ?_
 repeat first | refine then_ret ?_ | refine inBlock_ret ?_
 exact end_tmp rfl hd (vL zl 0) ⟨by rw [show fitsB L = false from (by unfold fitsB; rw [Bool.and_eq_false_iff]; exact .inl (decide_eq_false hbig))], hB⟩
end Go.Proofs.YtcmllcmcbamlbaaDoor
namespace Go.Proofs.YtcmllcmcbamlbaaDoor
open Go.RowKit

set_option maxHeartbeats 4000000 in
set_option maxRecDepth 100000 in
theorem c_IndexSet (S : List Seat) (A : Option Addr) (c : Nat) (s : Seat) (ad : ByteArray) (gs ga : Nat) (t : TypeId) (w : World) (hS : SeatsAt w A S) (hgs : Blk w gs 47 s.cells.toArray) (hga : Blk w ga t #[.string ad]) (hlen : S.length ≤ 1000) :
  Calls Tryd.prog 31 #[.slice A S.length c, .func (.func 15) #[] #[.pointer (some ⟨gs, 0, none⟩), .pointer (some ⟨ga, 0, none⟩)]] w fun e w' => e = .returned (.int .i64 (idxB (sameB s ad) S)) ∧ Below w.heap.size w w' := by
 suffices h : ∀ w0, (SeatsAt w0 A S) → (Blk w0 gs 47 s.cells.toArray) → (Blk w0 ga t #[.string ad]) → Below w0.heap.size w0 w → Calls Tryd.prog 31 #[.slice A S.length c, .func (.func 15) #[] #[.pointer (some ⟨gs, 0, none⟩), .pointer (some ⟨ga, 0, none⟩)]] w fun e w' => e = .returned (.int .i64 (idxB (sameB s ad) S)) ∧ Below w0.heap.size w0 w' from h w hS hgs hga (bz_refl w)
 clear hS hgs hga
 intro w0 hS hgs hga hB
 refine enter_abs Tryd.func31 rfl 19 rfl (by simp) ?_
 intro a hs hd hargs
 have s0 := hargs 0 _ rfl
 have s1 := hargs 1 _ rfl
 clear hargs
 refine wp_seq ?_
 refine wp_region_list ?_
 show wpList _ _ _ [_] _ _
 refine tail_op rfl (fun K hK => ?_)
 go_simp
 refine hK _ _ ?_
 clear hK K
 refine act_put (d := 4) _ hs hd (by decide) [(0, _), (1, _)] ⟨s0, s1, trivial⟩ rfl ?_
 clear hs hd s0 s1
 intro a hs hd zl
 refine wp_seq ?_
 refine wp_seq ?_
 refine wp_region_list ?_
 show wpList _ _ _ [_, _, _] _ _
 refine tail_op rfl (fun K hK => ?_)
 have q0 := gL zl 1
 go_simp
 clear q0
 refine hK _ _ (tP hs hd zl ?_)
 clear hK K hs hd zl
 intro a hs hd zl
 refine tail_op rfl (fun K hK => ?_)
 have q6 := gL zl 0
 go_simp
 clear q6
 refine hK _ _ (tP hs hd zl ?_)
 clear hK K hs hd zl
 intro a hs hd zl
 refine tail_op rfl (fun K hK => ?_)
 go_simp
 refine hK _ _ (tP hs hd zl ?_)
 clear hK K hs hd zl
 intro a hs hd zl
 refine wp_block ?_
 obtain ⟨s8, s7, -, -, s0, s1, -⟩ := zl
 refine wp_loop (fun a w => ∃ (k : Nat), SzIs a 19 ∧ DfNil a ∧ LiveAll [(0, .slice A S.length c), (1, .func (.func 15) #[] #[.pointer (some ⟨gs, 0, none⟩), .pointer (some ⟨ga, 0, none⟩)]), (7, .int .i64 ((S.length : Nat) : Int)), (8, .int .i64 ((k : Nat) : Int))] a ∧ (k ≤ S.length) ∧ (Below w0.heap.size w0 w) ∧ (∀ i x, i < k → S[i]? = some x → (sameB s ad) x = false))
  (fun a _ => S.length - (intOf (a.tmps.getD 8 undef)).toNat) ⟨0, hs, hd, ⟨s0, s1, s7, s8, trivial⟩, Nat.zero_le _, hB, (fun i x h => absurd h (Nat.not_lt_zero i))⟩ ?_
 clear hs hd s0 s1 s7 s8
 rintro a w ⟨k, hs, hd, ⟨s0, s1, s7, s8, -⟩, hk, hB, hno⟩
 have hm : (intOf (a.tmps.getD 8 undef)).toNat = k := by rw [s8]; simp [intOf]
 rw [hm]
 clear hm
 have HNO := Is.hid hno
 clear hno
 by_cases hlt : k < S.length
 ·have e1 : decide (k < S.length) = true := decide_eq_true hlt
  have e2 : decide ((k : Int) < (S.length : Int)) = true := decide_eq_true (by omega)
  have ew : IntKind.i64.wrap ((k : Int) + 1) = ((k + 1 : Nat) : Int) := by rw [IntWalk.i64_in _ (by omega)]; omega
  obtain ⟨x, hxk⟩ : ∃ x, S[k]? = some x := ⟨S[k], List.getElem?_eq_getElem hlt⟩
  have HX := Is.hid hxk
  obtain ⟨b0, o0, rfl, hb0, hcells⟩ := (hS.after hB).at_ (by omega)
  have hck := hcells k x hxk
  clear hcells hxk
  refine wp_seq ?_
  refine wp_region_list ?_
  show wpList _ _ _ [_] _ _
  refine tail_op rfl (fun K hK => ?_)
  have q7 := gd s7
  have q8 := gd s8
  go_simp
  clear q7 q8
  refine hK _ _ ?_
  clear hK K
  refine act_put (d := 9) _ hs hd (by decide) [(0, _), (1, _), (7, _), (8, _)] ⟨s0, s1, s7, s8, trivial⟩ rfl ?_
  clear hs hd s0 s1 s7 s8
  intro a hs hd zl
  refine wp_seq ?_
  refine wp_cond_true (vL zl 0) ?_
  refine wp_skip ?_
  refine wp_seq ?_
  refine wp_block ?_
  refine wp_seq ?_
  refine wp_region_list ?_
  show wpList _ _ _ [_, _] _ _
  refine tail_op rfl (fun K hK => ?_)
  have q8 := gL zl 4
  go_simp
  clear q8
  refine hK _ _ (tP hs hd zl ?_)
  clear hK K hs hd zl
  intro a hs hd zl
  refine tail_op rfl (fun K hK => ?_)
  have q10 := gL zl 0
  go_simp
  clear q10
  refine hK _ _ (tP hs hd zl ?_)
  clear hK K hs hd zl
  intro a hs hd zl
  refine wp_seq ?_
  refine wp_region_list ?_
  show wpList _ _ _ [_, _, _, _, _, _] _ _
  refine tail_op rfl (fun K hK => ?_)
  have q1 := gL zl 4
  go_simp
  clear q1
  refine hK _ _ (tP hs hd zl ?_)
  clear hK K hs hd zl
  intro a hs hd zl
  refine tail_op rfl (fun K hK => ?_)
  have q0 := gL zl 4
  go_simp
  clear q0
  refine hK _ _ (tP hs hd zl ?_)
  clear hK K hs hd zl
  intro a hs hd zl
  refine tail_op rfl (fun K hK => ?_)
  have q5 := gL zl 2
  go_simp
  clear q5
  refine hK _ _ (tP hs hd zl ?_)
  clear hK K hs hd zl
  intro a hs hd zl
  refine tail_op rfl (fun K hK => ?_)
  have q12 := gL zl 1
  have q13 := gL zl 0
  go_simp
  clear q12 q13
  refine hK _ _ (tP hs hd zl ?_)
  clear hK K hs hd zl
  intro a hs hd zl
  refine tail_op rfl (fun K hK => ?_)
  have q14 := gL zl 0
  have s14 := vL zl 0
  refine op_load_cells 50 (.tmp 14) rfl b0 _ s14 x.cells _ hck rfl rfl (by kernel_rfl) ?_
  clear q14
  refine hK _ _ (tP hs hd zl ?_)
  clear hK K hs hd zl s14
  intro a hs hd zl
  clear hck
  refine tail_op rfl (fun K hK => ?_)
  have q11 := gL zl 4
  have q15 := gL zl 0
  go_simp
  refine (c_set1 x s ad gs ga t _ (hgs.after hB) (hga.after hB)).mono ?_
  rintro e w3 ⟨rfl, hb2⟩
  obtain ⟨pb, hpb⟩ : ∃ b, (sameB s ad) x = b := ⟨_, rfl⟩
  rw [show (sameB s ad) x = pb from hpb]
  clear q11 q15
  refine hK _ _ (tP hs hd zl ?_)
  clear hK K hs hd zl
  intro a hs hd zl
  replace hB := bz_then hB hb2
  clear hb2
  cases pb
  ·refine wp_cond_false (vL zl 0) ?_
   refine wp_skip ?_
   refine wp_region_list ?_
   show wpList _ _ _ [_, _] _ _
   refine tail_op rfl (fun K hK => ?_)
   have q8 := gL zl 12
   go_simp
   clear q8
   refine hK _ _ (tP hs hd zl ?_)
   clear hK K hs hd zl
   intro a hs hd zl
   refine tail_op rfl (fun K hK => ?_)
   have q18 := gL zl 0
   go_simp
   clear q18
   refine hK _ _ ?_
   clear hK K
   obtain ⟨s18, s16, -, -, -, -, -, s5, -, -, s0, s1, s7, s8, -⟩ := zl
   refine act_put (d := 8) _ hs hd (by decide) [(0, _), (1, _), (5, _), (7, _), (16, _), (18, _)] ⟨s0, s1, s5, s7, s16, s18, trivial⟩ rfl ?_
   clear hs hd s0 s1 s5 s7 s8 s16 s18
   intro a hs hd zl
   obtain ⟨s8, s0, s1, -, s7, -, -, -⟩ := zl
   refine ⟨⟨k + 1, hs, hd, ⟨s0, s1, s7, s8, trivial⟩, hlt, hB, (fun i y hi hy => by
    rcases Nat.lt_or_ge i k with h | h
    ·exact HNO.out i y h hy
    ·obtain rfl : i = k := by omega
     rw [HX.out] at hy
     injection hy with hy
     rw [← hy]; exact hpb)⟩, ?_⟩
   rw [s8]
   simp [intOf]
   omega
  refine wp_cond_true (vL zl 0) ?_
  refine wp_seq ?_
  refine wp_region_list ?_
  show wpList _ _ _ [_, _] _ _
  refine tail_op rfl (fun K hK => ?_)
  have q5 := gL zl 6
  go_simp
  clear q5
  refine hK _ _ (tP hs hd zl ?_)
  clear hK K hs hd zl
  intro a hs hd zl
  refine tail_op rfl (fun K hK => ?_)
  have q17 := gL zl 0
  go_simp
  clear q17
  refine hK _ _ (tP hs hd zl ?_)
  clear hK K hs hd zl
  intro a hs hd zl
  refine wp_ret ?_
  repeat first | refine then_ret ?_ | refine inBlock_ret ?_
  exact end_tmp rfl hd (vL zl 0) ⟨by rw [idxB_at HX.out hpb HNO.out], hB⟩
 obtain rfl : k = S.length := by omega
 have e1 : decide (S.length < S.length) = false := decide_eq_false (by omega)
 refine wp_seq ?_
 refine wp_region_list ?_
 show wpList _ _ _ [_] _ _
 refine tail_op rfl (fun K hK => ?_)
 have q7 := gd s7
 have q8 := gd s8
 go_simp
 clear q7 q8
 refine hK _ _ ?_
 clear hK K
 refine act_put (d := 9) _ hs hd (by decide) [(0, _), (1, _), (7, _), (8, _)] ⟨s0, s1, s7, s8, trivial⟩ rfl ?_
 clear hs hd s0 s1 s7 s8
 intro a hs hd zl
 refine wp_seq ?_
 refine wp_cond_false (vL zl 0) ?_
 refine wp_exit ?_
 repeat refine then_exit ?_
 refine inBlock_exit ?_
 refine wp_seq ?_
 refine wp_region_list ?_
 show wpList _ _ _ [_] _ _
 refine tail_op rfl (fun K hK => ?_)
 go_simp
 refine hK _ _ (tP hs hd zl ?_)
 clear hK K hs hd zl
 intro a hs hd zl
 refine wp_ret ?_
 exact end_tmp rfl hd (vL zl 0) ⟨by rw [idxB_none HNO.out], hB⟩
set_option maxHeartbeats 4000000 in
set_option maxRecDepth 100000 in
theorem c_ContainsSet (S : List Seat) (A : Option Addr) (c : Nat) (s : Seat) (ad : ByteArray) (gs ga : Nat) (t : TypeId) (w : World) (hS : SeatsAt w A S) (hgs : Blk w gs 47 s.cells.toArray) (hga : Blk w ga t #[.string ad]) (hlen : S.length ≤ 1000) :
  Calls Tryd.prog 14 #[.slice A S.length c, .func (.func 15) #[] #[.pointer (some ⟨gs, 0, none⟩), .pointer (some ⟨ga, 0, none⟩)]] w fun e w' => e = .returned (.bool (S.any (sameB s ad))) ∧ Below w.heap.size w w' := by
 suffices h : ∀ w0, (SeatsAt w0 A S) → (Blk w0 gs 47 s.cells.toArray) → (Blk w0 ga t #[.string ad]) → Below w0.heap.size w0 w → Calls Tryd.prog 14 #[.slice A S.length c, .func (.func 15) #[] #[.pointer (some ⟨gs, 0, none⟩), .pointer (some ⟨ga, 0, none⟩)]] w fun e w' => e = .returned (.bool (S.any (sameB s ad))) ∧ Below w0.heap.size w0 w' from h w hS hgs hga (bz_refl w)
 clear hS hgs hga
 intro w0 hS hgs hga hB
 refine enter_abs Tryd.func14 rfl 9 rfl (by simp) ?_
 intro a hs hd hargs
 have s0 := hargs 0 _ rfl
 have s1 := hargs 1 _ rfl
 clear hargs
 refine wp_seq ?_
 refine wp_region_list ?_
 show wpList _ _ _ [_] _ _
 refine tail_op rfl (fun K hK => ?_)
 go_simp
 refine hK _ _ ?_
 clear hK K
 refine act_put (d := 4) _ hs hd (by decide) [(0, _), (1, _)] ⟨s0, s1, trivial⟩ rfl ?_
 clear hs hd s0 s1
 intro a hs hd zl
 refine wp_seq ?_
 refine wp_region_list ?_
 show wpList _ _ _ [_, _, _, _, _] _ _
 refine tail_op rfl (fun K hK => ?_)
 have q0 := gL zl 1
 go_simp
 clear q0
 refine hK _ _ (tP hs hd zl ?_)
 clear hK K hs hd zl
 intro a hs hd zl
 refine tail_op rfl (fun K hK => ?_)
 have q1 := gL zl 3
 go_simp
 clear q1
 refine hK _ _ (tP hs hd zl ?_)
 clear hK K hs hd zl
 intro a hs hd zl
 refine tail_op rfl (fun K hK => ?_)
 have q5 := gL zl 1
 have q6 := gL zl 0
 go_simp
 refine (c_IndexSet S A c s ad gs ga t _ (hS.after hB) (hgs.after hB) (hga.after hB) hlen).mono ?_
 rintro e w3 ⟨rfl, hb2⟩
 obtain ⟨r, hr⟩ : ∃ r, Is (idxB (sameB s ad) S) r := is_self _
 have hany := idxB_any (sameB s ad) S
 rw [hr.out] at hany ⊢
 clear q5 q6
 refine hK _ _ (tP hs hd zl ?_)
 clear hK K hs hd zl
 intro a hs hd zl
 replace hB := bz_then hB hb2
 clear hb2
 refine tail_op rfl (fun K hK => ?_)
 have q7 := gL zl 0
 go_simp
 clear q7
 refine hK _ _ (tP hs hd zl ?_)
 clear hK K hs hd zl
 intro a hs hd zl
 refine tail_op rfl (fun K hK => ?_)
 have q8 := gL zl 0
 go_simp
 clear q8
 refine hK _ _ ?_
 clear hK K
 obtain ⟨s8, s7, s6, s5, -, s0, s1, -⟩ := zl
 refine act_put (d := 4) _ hs hd (by decide) [(0, _), (1, _), (5, _), (6, _), (7, _), (8, _)] ⟨s0, s1, s5, s6, s7, s8, trivial⟩ rfl ?_
 clear hs hd s0 s1 s5 s6 s7 s8
 intro a hs hd zl
 refine wp_ret ?_
 exact end_tmp rfl hd (vL zl 0) ⟨by simp only [hany], hB⟩
end Go.Proofs.YtcmllcmcbamlbaaDoor
