/- FnOld: the law's walk. (Printed by gen_old.py.) -/
import Derived.Test.YtjbigacgcapfdaaOldB
import Derived.Test.YtjbigacgcapfdaaFlow
namespace Go.Proofs.Ytjbigacgcapfdaa
open Go.RowKit

set_option maxHeartbeats 2000000 in
theorem w_FnOld (a0 a1 a2 a3 a4 a5 a6 : Int) (w : World) (h0 : -9223372036854775808 ≤ a0 ∧ a0 ≤ 9223372036854775807) (h1 : -9223372036854775808 ≤ a1 ∧ a1 ≤ 9223372036854775807) (h2 : -9223372036854775808 ≤ a2 ∧ a2 ≤ 9223372036854775807) (h3 : -9223372036854775808 ≤ a3 ∧ a3 ≤ 9223372036854775807) (h4 : -9223372036854775808 ≤ a4 ∧ a4 ≤ 9223372036854775807) (h5 : -9223372036854775808 ≤ a5 ∧ a5 ≤ 9223372036854775807) (h6 : -9223372036854775808 ≤ a6 ∧ a6 ≤ 9223372036854775807) :
    Calls Try.prog 3 #[.int .i64 a0, .int .i64 a1, .int .i64 a2, .int .i64 a3, .int .i64 a4, .int .i64 a5, .int .i64 a6] w fun e w' => e = .returned (.bool true) ∧ Below w.heap.size w w' := by
  have r0 := bel_range a0 1000 (by omega)
  have r1 := bel_range a1 1000000000 (by omega)
  have r2 := bel_range a2 1000000000000 (by omega)
  have r3 := bel_range a3 2000 (by omega)
  have r3' := bel_range a3 3 (by omega)
  have r4 := bel_range a4 1000000000 (by omega)
  have r5 := bel_range a5 1099511627776 (by omega)
  have r6 := bel_range a6 1099511627776 (by omega)
  have t5 : (bel a5 1099511627776).tmod 9 = bel a5 1099511627776 % 9 := Int.tmod_eq_emod_of_nonneg (by omega)
  have t6 : (bel a6 1099511627776).tmod 9 = bel a6 1099511627776 % 9 := Int.tmod_eq_emod_of_nonneg (by omega)
  by_cases hq : bel a3 3 = 0
  · have hq' : (bel a3 3 == 0) = true := by simpa using hq
    clear hq
    go_enter Try.func3, Try.ntmps3
    go_upto_region 8 with (first | (go_at_call 4; refine (c_below _ _ _ (by omega) (by omega)).mono ?_; rintro e w' ⟨rfl, rfl⟩) | (refine wpList_store_row rfl 30 (.tmp 15) (.tmp 24) rfl w.heap.size rfl #[.int .i64 0, .int .i64 0, .string ⟨#[]⟩, .int .i64 0, .int .i64 (1000000000 + bel a0 1000), .int .i64 (bel a1 1000000000), .slice none 0 0, .int .i64 0, .slice none 0 0, .slice none 0 0, .slice none 0 0, .slice none 0 0, .slice none 0 0, .slice none 0 0, .slice none 0 0, .slice none 0 0, .slice none 0 0, .string ⟨#[]⟩] rfl 30 #[.int .i64 0, .int .i64 0, .string ⟨#[]⟩, .int .i64 0, .int .i64 0, .int .i64 0, .slice none 0 0, .int .i64 0, .slice none 0 0, .slice none 0 0, .slice none 0 0, .slice none 0 0, .slice none 0 0, .slice none 0 0, .slice none 0 0, .slice none 0 0, .slice none 0 0, .string ⟨#[]⟩] (Blk.new _ _ _) rfl (by kernel_rfl) (by simp [Value.oneCell']) ?_; rw [setRow_alloc_at _ _ _ _ _ rfl]))
    have b1 : Blk ((w.alloc (.cells #[.int .i64 0, .int .i64 0, .string ⟨#[]⟩, .int .i64 0, .int .i64 (1000000000 + bel a0 1000), .int .i64 (bel a1 1000000000), .slice none 0 0, .int .i64 0, .slice none 0 0, .slice none 0 0, .slice none 0 0, .slice none 0 0, .slice none 0 0, .slice none 0 0, .slice none 0 0, .slice none 0 0, .slice none 0 0, .string ⟨#[]⟩] 30)).alloc (.cells #[.int .i64 (1000000000 + bel a0 1000 + bel a2 1000000000000 / 1000000000 + (bel a1 1000000000 + bel a2 1000000000000 % 1000000000) / 1000000000), .int .i64 ((bel a1 1000000000 + bel a2 1000000000000) % 1000000000)] 24)) w.heap.size 30 #[.int .i64 0, .int .i64 0, .string ⟨#[]⟩, .int .i64 0, .int .i64 (1000000000 + bel a0 1000), .int .i64 (bel a1 1000000000), .slice none 0 0, .int .i64 0, .slice none 0 0, .slice none 0 0, .slice none 0 0, .slice none 0 0, .slice none 0 0, .slice none 0 0, .slice none 0 0, .slice none 0 0, .slice none 0 0, .string ⟨#[]⟩] := (Blk.new _ _ _).alloc _
    have b2 : Blk ((w.alloc (.cells #[.int .i64 0, .int .i64 0, .string ⟨#[]⟩, .int .i64 0, .int .i64 (1000000000 + bel a0 1000), .int .i64 (bel a1 1000000000), .slice none 0 0, .int .i64 0, .slice none 0 0, .slice none 0 0, .slice none 0 0, .slice none 0 0, .slice none 0 0, .slice none 0 0, .slice none 0 0, .slice none 0 0, .slice none 0 0, .string ⟨#[]⟩] 30)).alloc (.cells #[.int .i64 (1000000000 + bel a0 1000 + bel a2 1000000000000 / 1000000000 + (bel a1 1000000000 + bel a2 1000000000000 % 1000000000) / 1000000000), .int .i64 ((bel a1 1000000000 + bel a2 1000000000000) % 1000000000)] 24)) (w.heap.size + 1) 24 #[.int .i64 (1000000000 + bel a0 1000 + bel a2 1000000000000 / 1000000000 + (bel a1 1000000000 + bel a2 1000000000000 % 1000000000) / 1000000000), .int .i64 ((bel a1 1000000000 + bel a2 1000000000000) % 1000000000)] := by simpa using Blk.new (w.alloc (.cells #[.int .i64 0, .int .i64 0, .string ⟨#[]⟩, .int .i64 0, .int .i64 (1000000000 + bel a0 1000), .int .i64 (bel a1 1000000000), .slice none 0 0, .int .i64 0, .slice none 0 0, .slice none 0 0, .slice none 0 0, .slice none 0 0, .slice none 0 0, .slice none 0 0, .slice none 0 0, .slice none 0 0, .slice none 0 0, .string ⟨#[]⟩] 30)) 24 #[.int .i64 (1000000000 + bel a0 1000 + bel a2 1000000000000 / 1000000000 + (bel a1 1000000000 + bel a2 1000000000000 % 1000000000) / 1000000000), .int .i64 ((bel a1 1000000000 + bel a2 1000000000000) % 1000000000)]
    have hW : Below w.heap.size w ((w.alloc (.cells #[.int .i64 0, .int .i64 0, .string ⟨#[]⟩, .int .i64 0, .int .i64 (1000000000 + bel a0 1000), .int .i64 (bel a1 1000000000), .slice none 0 0, .int .i64 0, .slice none 0 0, .slice none 0 0, .slice none 0 0, .slice none 0 0, .slice none 0 0, .slice none 0 0, .slice none 0 0, .slice none 0 0, .slice none 0 0, .string ⟨#[]⟩] 30)).alloc (.cells #[.int .i64 (1000000000 + bel a0 1000 + bel a2 1000000000000 / 1000000000 + (bel a1 1000000000 + bel a2 1000000000000 % 1000000000) / 1000000000), .int .i64 ((bel a1 1000000000 + bel a2 1000000000000) % 1000000000)] 24)) := by (repeat' (first | exact Below.refl _ _ | exact Nat.le_refl _ | (with_reducible assumption) | refine Below.setCell ?_ ?_ _ | refine Below.alloc ?_ ?_ _ | refine below_drewN ?_ _ | refine Below.drew ?_ | (simp; done) | omega | (simp; omega) | (simp at *; omega)))
    generalize ((w.alloc (.cells #[.int .i64 0, .int .i64 0, .string ⟨#[]⟩, .int .i64 0, .int .i64 (1000000000 + bel a0 1000), .int .i64 (bel a1 1000000000), .slice none 0 0, .int .i64 0, .slice none 0 0, .slice none 0 0, .slice none 0 0, .slice none 0 0, .slice none 0 0, .slice none 0 0, .slice none 0 0, .slice none 0 0, .slice none 0 0, .string ⟨#[]⟩] 30)).alloc (.cells #[.int .i64 (1000000000 + bel a0 1000 + bel a2 1000000000000 / 1000000000 + (bel a1 1000000000 + bel a2 1000000000000 % 1000000000) / 1000000000), .int .i64 ((bel a1 1000000000 + bel a2 1000000000000) % 1000000000)] 24)) = W at b1 b2 hW ⊢
    refine wp_flow_use [(2, .int .i64 (bel a2 1000000000000)), (5, .int .i64 (bel a5 1099511627776)), (6, .int .i64 (bel a6 1099511627776)), (15, .pointer (some ⟨w.heap.size, 0, none⟩)), (16, .pointer (some ⟨w.heap.size + 1, 0, none⟩))]
      [FItem.eq 58 (.agg #[.int .i64 0, .int .i64 0, .string ⟨#[]⟩, .int .i64 0, .int .i64 (1000000000 + bel a0 1000), .int .i64 (bel a1 1000000000), .slice none 0 0, .int .i64 0, .slice none 0 0, .slice none 0 0, .slice none 0 0, .slice none 0 0, .slice none 0 0, .slice none 0 0, .slice none 0 0, .slice none 0 0, .slice none 0 0, .string ⟨#[]⟩]),
       FItem.eq 59 (.int .i64 (bel a2 1000000000000)),
       FItem.eq 60 (.agg #[.int .i64 (1000000000 + bel a0 1000 + bel a2 1000000000000 / 1000000000 + (bel a1 1000000000 + bel a2 1000000000000 % 1000000000) / 1000000000), .int .i64 ((bel a1 1000000000 + bel a2 1000000000000) % 1000000000)]),
       FItem.eq 61 (.bool (!laterB (addS (1000000000 + bel a0 1000) (bel a1 1000000000) (bel a2 1000000000000)) (addN (bel a1 1000000000) (bel a2 1000000000000)) (1000000000 + bel a0 1000 + bel a2 1000000000000 / 1000000000 + (bel a1 1000000000 + bel a2 1000000000000 % 1000000000) / 1000000000) ((bel a1 1000000000 + bel a2 1000000000000) % 1000000000))),
       FItem.eq 62 (.agg #[.int .i64 0, .int .i64 0, .string ⟨#[]⟩, .int .i64 0, .int .i64 (1000000000 + bel a0 1000), .int .i64 (bel a1 1000000000), .slice none 0 0, .int .i64 0, .slice none 0 0, .slice none 0 0, .slice none 0 0, .slice none 0 0, .slice none 0 0, .slice none 0 0, .slice none 0 0, .slice none 0 0, .slice none 0 0, .string ⟨#[]⟩]),
       FItem.eq 63 (.agg #[.int .i64 0, .int .i64 0, .string ⟨#[]⟩, .int .i64 0, .int .i64 (1000000000 + bel a0 1000), .int .i64 (bel a1 1000000000), .slice none 0 0, .int .i64 0, .slice none 0 0, .slice none 0 0, .slice none 0 0, .slice none 0 0, .slice none 0 0, .slice none 0 0, .slice none 0 0, .slice none 0 0, .slice none 0 0, .string ⟨#[]⟩]),
       FItem.eq 64 (.int .i64 (bel a2 1000000000000)),
       FItem.eq 65 (.agg #[.int .i64 (1000000000 + bel a0 1000 + bel a2 1000000000000 / 1000000000 + (bel a1 1000000000 + bel a2 1000000000000 % 1000000000) / 1000000000), .int .i64 ((bel a1 1000000000 + bel a2 1000000000000) % 1000000000)]),
       FItem.eq 66 (.bool (!laterB (addS (1000000000 + bel a0 1000) (bel a1 1000000000) (bel a2 1000000000000)) (addN (bel a1 1000000000) (bel a2 1000000000000)) (1000000000 + bel a0 1000 + bel a2 1000000000000 / 1000000000 + (bel a1 1000000000 + bel a2 1000000000000 % 1000000000) / 1000000000) ((bel a1 1000000000 + bel a2 1000000000000) % 1000000000))),
       FItem.eq 67 (.bool true),
       FItem.eq 68 (.bool true),
       FItem.eq 69 (.int .i64 (bel a5 1099511627776)),
       FItem.eq 70 (.int .i64 (bel a6 1099511627776)),
       FItem.eq 71 (.bool (lvlB (bel a5 1099511627776) (bel a6 1099511627776))),
       FItem.eq 72 (.int .i64 (bel a5 1099511627776)),
       FItem.eq 73 (.int .i64 (bel a6 1099511627776)),
       FItem.eq 74 (.bool (lvlB (bel a5 1099511627776) (bel a6 1099511627776))),
       FItem.eq 75 (.bool true),
       FItem.eq 76 (.bool true),
       FItem.eq 77 (.bool true),
       FItem.eq 78 (.int .i64 (bel a5 1099511627776)),
       FItem.eq 79 (.int .i64 (bel a5 1099511627776 % 9)),
       FItem.eq 80 (.int .i64 (bel a6 1099511627776)),
       FItem.eq 81 (.int .i64 (bel a6 1099511627776 % 9)),
       FItem.eq 82 (.bool (lvlB (bel a5 1099511627776 % 9) (bel a6 1099511627776 % 9))),
       FItem.eq 83 (.int .i64 (bel a5 1099511627776)),
       FItem.eq 84 (.int .i64 (bel a5 1099511627776 % 9)),
       FItem.eq 85 (.int .i64 (bel a6 1099511627776)),
       FItem.eq 86 (.int .i64 (bel a6 1099511627776 % 9)),
       FItem.eq 87 (.bool (lvlB (bel a5 1099511627776 % 9) (bel a6 1099511627776 % 9))),
       FItem.eq 88 (.bool true),
       FItem.eq 89 (.bool true),
       FItem.eq 14 (.bool true)]
      90 (by kernel_rfl) (by kernel_rfl) (by kernel_rfl) rfl ⟨rfl, rfl, rfl, rfl, rfl, trivial⟩
      ⟨(fun a u hb hs hl hd K hK => by
        obtain ⟨l2, l5, l6, l15, l16, -⟩ := hl
        have s15 := gd l15
        clear hd
        refine step_plain rfl ?_
        exact wp_load_row 30 (.tmp 15) rfl w.heap.size l15 30 _ (0, 0) _ (b1.below hb b1.lt) Try.underlying30 rfl (by kernel_rfl) (hK _ _ (Below.refl _ _) (eq_put hs (by decide)))),
       (fun a u hb hs hl hd K hK => by
        obtain ⟨l2, l5, l6, l15, l16, -⟩ := hl
        have s2 := gd l2
        clear hd
        refine step_plain rfl ?_
        go_simp; exact hK _ _ (Below.refl _ _) (eq_put hs (by decide))),
       (fun a u hb hs hl hd K hK => by
        obtain ⟨l2, l5, l6, l15, l16, -⟩ := hl
        have s16 := gd l16
        clear hd
        refine step_plain rfl ?_
        exact wp_load_row 24 (.tmp 16) rfl (w.heap.size + 1) l16 24 _ (0, 0) _ (b2.below hb b2.lt) Try.underlying24 rfl (by kernel_rfl) (hK _ _ (Below.refl _ _) (eq_put hs (by decide)))),
       (fun a u hb hs hl hd K hK => by
        obtain ⟨l2, l5, l6, l15, l16, -⟩ := hl
        have s58 : a.tmps[58]?.getD undef = .agg #[.int .i64 0, .int .i64 0, .string ⟨#[]⟩, .int .i64 0, .int .i64 (1000000000 + bel a0 1000), .int .i64 (bel a1 1000000000), .slice none 0 0, .int .i64 0, .slice none 0 0, .slice none 0 0, .slice none 0 0, .slice none 0 0, .slice none 0 0, .slice none 0 0, .slice none 0 0, .slice none 0 0, .slice none 0 0, .string ⟨#[]⟩] := gd (dep_get hd 0 (by kernel_rfl) rfl)
        have s59 : a.tmps[59]?.getD undef = .int .i64 (bel a2 1000000000000) := gd (dep_get hd 1 (by kernel_rfl) rfl)
        have s60 : a.tmps[60]?.getD undef = .agg #[.int .i64 (1000000000 + bel a0 1000 + bel a2 1000000000000 / 1000000000 + (bel a1 1000000000 + bel a2 1000000000000 % 1000000000) / 1000000000), .int .i64 ((bel a1 1000000000 + bel a2 1000000000000) % 1000000000)] := gd (dep_get hd 2 (by kernel_rfl) rfl)
        clear hd
        refine step_plain rfl ?_
        go_simp; refine (c_iOld _ _ _ _ _ _ (by omega) (by omega) (by omega) (by omega) (by omega)).mono ?_; rintro e u1 ⟨rfl, hb1⟩; exact hK _ _ hb1 (eq_put hs (by decide))),
       (fun a u hb hs hl hd K hK => by
        obtain ⟨l2, l5, l6, l15, l16, -⟩ := hl
        have s15 := gd l15
        clear hd
        refine step_plain rfl ?_
        exact wp_load_row 30 (.tmp 15) rfl w.heap.size l15 30 _ (0, 0) _ (b1.below hb b1.lt) Try.underlying30 rfl (by kernel_rfl) (hK _ _ (Below.refl _ _) (eq_put hs (by decide)))),
       (fun a u hb hs hl hd K hK => by
        obtain ⟨l2, l5, l6, l15, l16, -⟩ := hl
        have s62 : a.tmps[62]?.getD undef = .agg #[.int .i64 0, .int .i64 0, .string ⟨#[]⟩, .int .i64 0, .int .i64 (1000000000 + bel a0 1000), .int .i64 (bel a1 1000000000), .slice none 0 0, .int .i64 0, .slice none 0 0, .slice none 0 0, .slice none 0 0, .slice none 0 0, .slice none 0 0, .slice none 0 0, .slice none 0 0, .slice none 0 0, .slice none 0 0, .string ⟨#[]⟩] := gd (dep_get hd 4 (by kernel_rfl) rfl)
        clear hd
        refine step_plain rfl ?_
        go_simp; refine (c_lheader 0 0 0 _ _ 0 ⟨#[]⟩ ⟨#[]⟩ ⟨none, 0, 0⟩ ⟨none, 0, 0⟩ ⟨none, 0, 0⟩ ⟨none, 0, 0⟩ ⟨none, 0, 0⟩ ⟨none, 0, 0⟩ ⟨none, 0, 0⟩ ⟨none, 0, 0⟩ ⟨none, 0, 0⟩ ⟨none, 0, 0⟩ _).mono ?_; rintro e u1 ⟨rfl, hb1⟩; exact hK _ _ hb1 (eq_put hs (by decide))),
       (fun a u hb hs hl hd K hK => by
        obtain ⟨l2, l5, l6, l15, l16, -⟩ := hl
        have s2 := gd l2
        clear hd
        refine step_plain rfl ?_
        go_simp; exact hK _ _ (Below.refl _ _) (eq_put hs (by decide))),
       (fun a u hb hs hl hd K hK => by
        obtain ⟨l2, l5, l6, l15, l16, -⟩ := hl
        have s16 := gd l16
        clear hd
        refine step_plain rfl ?_
        exact wp_load_row 24 (.tmp 16) rfl (w.heap.size + 1) l16 24 _ (0, 0) _ (b2.below hb b2.lt) Try.underlying24 rfl (by kernel_rfl) (hK _ _ (Below.refl _ _) (eq_put hs (by decide)))),
       (fun a u hb hs hl hd K hK => by
        obtain ⟨l2, l5, l6, l15, l16, -⟩ := hl
        have s63 : a.tmps[63]?.getD undef = .agg #[.int .i64 0, .int .i64 0, .string ⟨#[]⟩, .int .i64 0, .int .i64 (1000000000 + bel a0 1000), .int .i64 (bel a1 1000000000), .slice none 0 0, .int .i64 0, .slice none 0 0, .slice none 0 0, .slice none 0 0, .slice none 0 0, .slice none 0 0, .slice none 0 0, .slice none 0 0, .slice none 0 0, .slice none 0 0, .string ⟨#[]⟩] := gd (dep_get hd 5 (by kernel_rfl) rfl)
        have s64 : a.tmps[64]?.getD undef = .int .i64 (bel a2 1000000000000) := gd (dep_get hd 6 (by kernel_rfl) rfl)
        have s65 : a.tmps[65]?.getD undef = .agg #[.int .i64 (1000000000 + bel a0 1000 + bel a2 1000000000000 / 1000000000 + (bel a1 1000000000 + bel a2 1000000000000 % 1000000000) / 1000000000), .int .i64 ((bel a1 1000000000 + bel a2 1000000000000) % 1000000000)] := gd (dep_get hd 7 (by kernel_rfl) rfl)
        clear hd
        refine step_plain rfl ?_
        go_simp; refine (c_sOld _ _ _ _ _ _ (by omega) (by omega) (by omega)).mono ?_; rintro e u1 ⟨rfl, hb1⟩; exact hK _ _ hb1 (eq_put hs (by decide))),
       (fun a u hb hs hl hd K hK => by
        obtain ⟨l2, l5, l6, l15, l16, -⟩ := hl
        have s61 : a.tmps[61]?.getD undef = .bool (!laterB (addS (1000000000 + bel a0 1000) (bel a1 1000000000) (bel a2 1000000000000)) (addN (bel a1 1000000000) (bel a2 1000000000000)) (1000000000 + bel a0 1000 + bel a2 1000000000000 / 1000000000 + (bel a1 1000000000 + bel a2 1000000000000 % 1000000000) / 1000000000) ((bel a1 1000000000 + bel a2 1000000000000) % 1000000000)) := gd (dep_get hd 3 (by kernel_rfl) rfl)
        have s66 : a.tmps[66]?.getD undef = .bool (!laterB (addS (1000000000 + bel a0 1000) (bel a1 1000000000) (bel a2 1000000000000)) (addN (bel a1 1000000000) (bel a2 1000000000000)) (1000000000 + bel a0 1000 + bel a2 1000000000000 / 1000000000 + (bel a1 1000000000 + bel a2 1000000000000 % 1000000000) / 1000000000) ((bel a1 1000000000 + bel a2 1000000000000) % 1000000000)) := gd (dep_get hd 8 (by kernel_rfl) rfl)
        clear hd
        refine step_plain rfl ?_
        go_simp; exact hK _ _ (Below.refl _ _) (eq_put hs (by decide))),
       (fun a u hb hs hl hd K hK => by
        obtain ⟨l2, l5, l6, l15, l16, -⟩ := hl
        have s67 : a.tmps[67]?.getD undef = .bool true := gd (dep_get hd 9 (by kernel_rfl) rfl)
        clear hd
        refine step_plain rfl ?_
        go_simp; exact hK _ _ (Below.refl _ _) (eq_put hs (by decide))),
       (fun a u hb hs hl hd K hK => by
        obtain ⟨l2, l5, l6, l15, l16, -⟩ := hl
        have s5 := gd l5
        have g68 : a.tmps.getD 68 undef = .bool true := dep_get hd 10 (by kernel_rfl) rfl
        clear hd
        refine step_yes rfl (j := 10) (d := 68) rfl rfl g68 ?_
        go_simp; exact hK _ _ (Below.refl _ _) (eq_put hs (by decide))),
       (fun a u hb hs hl hd K hK => by
        obtain ⟨l2, l5, l6, l15, l16, -⟩ := hl
        have s6 := gd l6
        have g68 : a.tmps.getD 68 undef = .bool true := dep_get hd 10 (by kernel_rfl) rfl
        clear hd
        refine step_yes rfl (j := 10) (d := 68) rfl rfl g68 ?_
        go_simp; exact hK _ _ (Below.refl _ _) (eq_put hs (by decide))),
       (fun a u hb hs hl hd K hK => by
        obtain ⟨l2, l5, l6, l15, l16, -⟩ := hl
        have s69 : a.tmps[69]?.getD undef = .int .i64 (bel a5 1099511627776) := gd (dep_get hd 11 (by kernel_rfl) rfl)
        have s70 : a.tmps[70]?.getD undef = .int .i64 (bel a6 1099511627776) := gd (dep_get hd 12 (by kernel_rfl) rfl)
        have g68 : a.tmps.getD 68 undef = .bool true := dep_get hd 10 (by kernel_rfl) rfl
        clear hd
        refine step_yes rfl (j := 10) (d := 68) rfl rfl g68 ?_
        go_simp; refine (c_iLevel _ _ _ (by omega) (by omega)).mono ?_; rintro e u1 ⟨rfl, hb1⟩; exact hK _ _ hb1 (eq_put hs (by decide))),
       (fun a u hb hs hl hd K hK => by
        obtain ⟨l2, l5, l6, l15, l16, -⟩ := hl
        have s5 := gd l5
        have g68 : a.tmps.getD 68 undef = .bool true := dep_get hd 10 (by kernel_rfl) rfl
        clear hd
        refine step_yes rfl (j := 10) (d := 68) rfl rfl g68 ?_
        go_simp; exact hK _ _ (Below.refl _ _) (eq_put hs (by decide))),
       (fun a u hb hs hl hd K hK => by
        obtain ⟨l2, l5, l6, l15, l16, -⟩ := hl
        have s6 := gd l6
        have g68 : a.tmps.getD 68 undef = .bool true := dep_get hd 10 (by kernel_rfl) rfl
        clear hd
        refine step_yes rfl (j := 10) (d := 68) rfl rfl g68 ?_
        go_simp; exact hK _ _ (Below.refl _ _) (eq_put hs (by decide))),
       (fun a u hb hs hl hd K hK => by
        obtain ⟨l2, l5, l6, l15, l16, -⟩ := hl
        have s72 : a.tmps[72]?.getD undef = .int .i64 (bel a5 1099511627776) := gd (dep_get hd 14 (by kernel_rfl) rfl)
        have s73 : a.tmps[73]?.getD undef = .int .i64 (bel a6 1099511627776) := gd (dep_get hd 15 (by kernel_rfl) rfl)
        have g68 : a.tmps.getD 68 undef = .bool true := dep_get hd 10 (by kernel_rfl) rfl
        clear hd
        refine step_yes rfl (j := 10) (d := 68) rfl rfl g68 ?_
        go_simp; refine (c_sLevel _ _ _ (by omega) (by omega)).mono ?_; rintro e u1 ⟨rfl, rfl⟩; exact hK _ _ (Below.refl _ _) (eq_put hs (by decide))),
       (fun a u hb hs hl hd K hK => by
        obtain ⟨l2, l5, l6, l15, l16, -⟩ := hl
        have s71 : a.tmps[71]?.getD undef = .bool (lvlB (bel a5 1099511627776) (bel a6 1099511627776)) := gd (dep_get hd 13 (by kernel_rfl) rfl)
        have s74 : a.tmps[74]?.getD undef = .bool (lvlB (bel a5 1099511627776) (bel a6 1099511627776)) := gd (dep_get hd 16 (by kernel_rfl) rfl)
        have g68 : a.tmps.getD 68 undef = .bool true := dep_get hd 10 (by kernel_rfl) rfl
        clear hd
        refine step_yes rfl (j := 10) (d := 68) rfl rfl g68 ?_
        go_simp; exact hK _ _ (Below.refl _ _) (eq_put hs (by decide))),
       (fun a u hb hs hl hd K hK => by
        obtain ⟨l2, l5, l6, l15, l16, -⟩ := hl
        have s68 : a.tmps[68]?.getD undef = .bool true := gd (dep_get hd 10 (by kernel_rfl) rfl)
        have s75 : a.tmps[75]?.getD undef = .bool true := gd (dep_get hd 17 (by kernel_rfl) rfl)
        clear hd
        refine step_plain rfl ?_
        go_simp; exact hK _ _ (Below.refl _ _) (eq_put hs (by decide))),
       (fun a u hb hs hl hd K hK => by
        obtain ⟨l2, l5, l6, l15, l16, -⟩ := hl
        have s76 : a.tmps[76]?.getD undef = .bool true := gd (dep_get hd 18 (by kernel_rfl) rfl)
        clear hd
        refine step_plain rfl ?_
        go_simp; exact hK _ _ (Below.refl _ _) (eq_put hs (by decide))),
       (fun a u hb hs hl hd K hK => by
        obtain ⟨l2, l5, l6, l15, l16, -⟩ := hl
        have s5 := gd l5
        have g77 : a.tmps.getD 77 undef = .bool true := dep_get hd 19 (by kernel_rfl) rfl
        clear hd
        refine step_yes rfl (j := 19) (d := 77) rfl rfl g77 ?_
        go_simp; exact hK _ _ (Below.refl _ _) (eq_put hs (by decide))),
       (fun a u hb hs hl hd K hK => by
        obtain ⟨l2, l5, l6, l15, l16, -⟩ := hl
        have s78 : a.tmps[78]?.getD undef = .int .i64 (bel a5 1099511627776) := gd (dep_get hd 20 (by kernel_rfl) rfl)
        have g77 : a.tmps.getD 77 undef = .bool true := dep_get hd 19 (by kernel_rfl) rfl
        clear hd
        refine step_yes rfl (j := 19) (d := 77) rfl rfl g77 ?_
        go_simp; exact hK _ _ (Below.refl _ _) (eq_put hs (by decide))),
       (fun a u hb hs hl hd K hK => by
        obtain ⟨l2, l5, l6, l15, l16, -⟩ := hl
        have s6 := gd l6
        have g77 : a.tmps.getD 77 undef = .bool true := dep_get hd 19 (by kernel_rfl) rfl
        clear hd
        refine step_yes rfl (j := 19) (d := 77) rfl rfl g77 ?_
        go_simp; exact hK _ _ (Below.refl _ _) (eq_put hs (by decide))),
       (fun a u hb hs hl hd K hK => by
        obtain ⟨l2, l5, l6, l15, l16, -⟩ := hl
        have s80 : a.tmps[80]?.getD undef = .int .i64 (bel a6 1099511627776) := gd (dep_get hd 22 (by kernel_rfl) rfl)
        have g77 : a.tmps.getD 77 undef = .bool true := dep_get hd 19 (by kernel_rfl) rfl
        clear hd
        refine step_yes rfl (j := 19) (d := 77) rfl rfl g77 ?_
        go_simp; exact hK _ _ (Below.refl _ _) (eq_put hs (by decide))),
       (fun a u hb hs hl hd K hK => by
        obtain ⟨l2, l5, l6, l15, l16, -⟩ := hl
        have s79 : a.tmps[79]?.getD undef = .int .i64 (bel a5 1099511627776 % 9) := gd (dep_get hd 21 (by kernel_rfl) rfl)
        have s81 : a.tmps[81]?.getD undef = .int .i64 (bel a6 1099511627776 % 9) := gd (dep_get hd 23 (by kernel_rfl) rfl)
        have g77 : a.tmps.getD 77 undef = .bool true := dep_get hd 19 (by kernel_rfl) rfl
        clear hd
        refine step_yes rfl (j := 19) (d := 77) rfl rfl g77 ?_
        go_simp; refine (c_iLevel _ _ _ (by omega) (by omega)).mono ?_; rintro e u1 ⟨rfl, hb1⟩; exact hK _ _ hb1 (eq_put hs (by decide))),
       (fun a u hb hs hl hd K hK => by
        obtain ⟨l2, l5, l6, l15, l16, -⟩ := hl
        have s5 := gd l5
        have g77 : a.tmps.getD 77 undef = .bool true := dep_get hd 19 (by kernel_rfl) rfl
        clear hd
        refine step_yes rfl (j := 19) (d := 77) rfl rfl g77 ?_
        go_simp; exact hK _ _ (Below.refl _ _) (eq_put hs (by decide))),
       (fun a u hb hs hl hd K hK => by
        obtain ⟨l2, l5, l6, l15, l16, -⟩ := hl
        have s83 : a.tmps[83]?.getD undef = .int .i64 (bel a5 1099511627776) := gd (dep_get hd 25 (by kernel_rfl) rfl)
        have g77 : a.tmps.getD 77 undef = .bool true := dep_get hd 19 (by kernel_rfl) rfl
        clear hd
        refine step_yes rfl (j := 19) (d := 77) rfl rfl g77 ?_
        go_simp; exact hK _ _ (Below.refl _ _) (eq_put hs (by decide))),
       (fun a u hb hs hl hd K hK => by
        obtain ⟨l2, l5, l6, l15, l16, -⟩ := hl
        have s6 := gd l6
        have g77 : a.tmps.getD 77 undef = .bool true := dep_get hd 19 (by kernel_rfl) rfl
        clear hd
        refine step_yes rfl (j := 19) (d := 77) rfl rfl g77 ?_
        go_simp; exact hK _ _ (Below.refl _ _) (eq_put hs (by decide))),
       (fun a u hb hs hl hd K hK => by
        obtain ⟨l2, l5, l6, l15, l16, -⟩ := hl
        have s85 : a.tmps[85]?.getD undef = .int .i64 (bel a6 1099511627776) := gd (dep_get hd 27 (by kernel_rfl) rfl)
        have g77 : a.tmps.getD 77 undef = .bool true := dep_get hd 19 (by kernel_rfl) rfl
        clear hd
        refine step_yes rfl (j := 19) (d := 77) rfl rfl g77 ?_
        go_simp; exact hK _ _ (Below.refl _ _) (eq_put hs (by decide))),
       (fun a u hb hs hl hd K hK => by
        obtain ⟨l2, l5, l6, l15, l16, -⟩ := hl
        have s84 : a.tmps[84]?.getD undef = .int .i64 (bel a5 1099511627776 % 9) := gd (dep_get hd 26 (by kernel_rfl) rfl)
        have s86 : a.tmps[86]?.getD undef = .int .i64 (bel a6 1099511627776 % 9) := gd (dep_get hd 28 (by kernel_rfl) rfl)
        have g77 : a.tmps.getD 77 undef = .bool true := dep_get hd 19 (by kernel_rfl) rfl
        clear hd
        refine step_yes rfl (j := 19) (d := 77) rfl rfl g77 ?_
        go_simp; refine (c_sLevel _ _ _ (by omega) (by omega)).mono ?_; rintro e u1 ⟨rfl, rfl⟩; exact hK _ _ (Below.refl _ _) (eq_put hs (by decide))),
       (fun a u hb hs hl hd K hK => by
        obtain ⟨l2, l5, l6, l15, l16, -⟩ := hl
        have s82 : a.tmps[82]?.getD undef = .bool (lvlB (bel a5 1099511627776 % 9) (bel a6 1099511627776 % 9)) := gd (dep_get hd 24 (by kernel_rfl) rfl)
        have s87 : a.tmps[87]?.getD undef = .bool (lvlB (bel a5 1099511627776 % 9) (bel a6 1099511627776 % 9)) := gd (dep_get hd 29 (by kernel_rfl) rfl)
        have g77 : a.tmps.getD 77 undef = .bool true := dep_get hd 19 (by kernel_rfl) rfl
        clear hd
        refine step_yes rfl (j := 19) (d := 77) rfl rfl g77 ?_
        go_simp; exact hK _ _ (Below.refl _ _) (eq_put hs (by decide))),
       (fun a u hb hs hl hd K hK => by
        obtain ⟨l2, l5, l6, l15, l16, -⟩ := hl
        have s77 : a.tmps[77]?.getD undef = .bool true := gd (dep_get hd 19 (by kernel_rfl) rfl)
        have s88 : a.tmps[88]?.getD undef = .bool true := gd (dep_get hd 30 (by kernel_rfl) rfl)
        clear hd
        refine step_plain rfl ?_
        go_simp; exact hK _ _ (Below.refl _ _) (eq_put hs (by decide))),
       (fun a u hb hs hl hd K hK => by
        obtain ⟨l2, l5, l6, l15, l16, -⟩ := hl
        have s89 : a.tmps[89]?.getD undef = .bool true := gd (dep_get hd 31 (by kernel_rfl) rfl)
        clear hd
        refine step_plain rfl ?_
        go_simp; exact hK _ _ (Below.refl _ _) (eq_put hs (by decide))),
       trivial⟩ ?_
    intro a u hb hs hdf hl hh
    have s14 : a.tmps.getD 14 undef = .bool true := hold_eq hh 32 rfl
    clear hh hl
    go_wp2
    refine bodyPost_ret (results_tmp rfl _ _ _) (hdf.trans rfl) ?_
    rw [s14]
    exact ⟨rfl, bz_then hW hb⟩
  · have hq' : (bel a3 3 == 0) = false := by simpa using hq
    clear hq
    go_enter Try.func3, Try.ntmps3
    go_upto_region 8 with (first | (go_at_call 4; refine (c_below _ _ _ (by omega) (by omega)).mono ?_; rintro e w' ⟨rfl, rfl⟩) | (refine wpList_store_row rfl 30 (.tmp 15) (.tmp 24) rfl w.heap.size rfl #[.int .i64 0, .int .i64 0, .string ⟨#[]⟩, .int .i64 0, .int .i64 (1000000000 + bel a0 1000), .int .i64 (bel a1 1000000000), .slice none 0 0, .int .i64 0, .slice none 0 0, .slice none 0 0, .slice none 0 0, .slice none 0 0, .slice none 0 0, .slice none 0 0, .slice none 0 0, .slice none 0 0, .slice none 0 0, .string ⟨#[]⟩] rfl 30 #[.int .i64 0, .int .i64 0, .string ⟨#[]⟩, .int .i64 0, .int .i64 0, .int .i64 0, .slice none 0 0, .int .i64 0, .slice none 0 0, .slice none 0 0, .slice none 0 0, .slice none 0 0, .slice none 0 0, .slice none 0 0, .slice none 0 0, .slice none 0 0, .slice none 0 0, .string ⟨#[]⟩] (Blk.new _ _ _) rfl (by kernel_rfl) (by simp [Value.oneCell']) ?_; rw [setRow_alloc_at _ _ _ _ _ rfl]))
    have b1 : Blk ((w.alloc (.cells #[.int .i64 0, .int .i64 0, .string ⟨#[]⟩, .int .i64 0, .int .i64 (1000000000 + bel a0 1000), .int .i64 (bel a1 1000000000), .slice none 0 0, .int .i64 0, .slice none 0 0, .slice none 0 0, .slice none 0 0, .slice none 0 0, .slice none 0 0, .slice none 0 0, .slice none 0 0, .slice none 0 0, .slice none 0 0, .string ⟨#[]⟩] 30)).alloc (.cells #[.int .i64 (1000000000 + bel a3 2000), .int .i64 (bel a4 1000000000)] 24)) w.heap.size 30 #[.int .i64 0, .int .i64 0, .string ⟨#[]⟩, .int .i64 0, .int .i64 (1000000000 + bel a0 1000), .int .i64 (bel a1 1000000000), .slice none 0 0, .int .i64 0, .slice none 0 0, .slice none 0 0, .slice none 0 0, .slice none 0 0, .slice none 0 0, .slice none 0 0, .slice none 0 0, .slice none 0 0, .slice none 0 0, .string ⟨#[]⟩] := (Blk.new _ _ _).alloc _
    have b2 : Blk ((w.alloc (.cells #[.int .i64 0, .int .i64 0, .string ⟨#[]⟩, .int .i64 0, .int .i64 (1000000000 + bel a0 1000), .int .i64 (bel a1 1000000000), .slice none 0 0, .int .i64 0, .slice none 0 0, .slice none 0 0, .slice none 0 0, .slice none 0 0, .slice none 0 0, .slice none 0 0, .slice none 0 0, .slice none 0 0, .slice none 0 0, .string ⟨#[]⟩] 30)).alloc (.cells #[.int .i64 (1000000000 + bel a3 2000), .int .i64 (bel a4 1000000000)] 24)) (w.heap.size + 1) 24 #[.int .i64 (1000000000 + bel a3 2000), .int .i64 (bel a4 1000000000)] := by simpa using Blk.new (w.alloc (.cells #[.int .i64 0, .int .i64 0, .string ⟨#[]⟩, .int .i64 0, .int .i64 (1000000000 + bel a0 1000), .int .i64 (bel a1 1000000000), .slice none 0 0, .int .i64 0, .slice none 0 0, .slice none 0 0, .slice none 0 0, .slice none 0 0, .slice none 0 0, .slice none 0 0, .slice none 0 0, .slice none 0 0, .slice none 0 0, .string ⟨#[]⟩] 30)) 24 #[.int .i64 (1000000000 + bel a3 2000), .int .i64 (bel a4 1000000000)]
    have hW : Below w.heap.size w ((w.alloc (.cells #[.int .i64 0, .int .i64 0, .string ⟨#[]⟩, .int .i64 0, .int .i64 (1000000000 + bel a0 1000), .int .i64 (bel a1 1000000000), .slice none 0 0, .int .i64 0, .slice none 0 0, .slice none 0 0, .slice none 0 0, .slice none 0 0, .slice none 0 0, .slice none 0 0, .slice none 0 0, .slice none 0 0, .slice none 0 0, .string ⟨#[]⟩] 30)).alloc (.cells #[.int .i64 (1000000000 + bel a3 2000), .int .i64 (bel a4 1000000000)] 24)) := by (repeat' (first | exact Below.refl _ _ | exact Nat.le_refl _ | (with_reducible assumption) | refine Below.setCell ?_ ?_ _ | refine Below.alloc ?_ ?_ _ | refine below_drewN ?_ _ | refine Below.drew ?_ | (simp; done) | omega | (simp; omega) | (simp at *; omega)))
    generalize ((w.alloc (.cells #[.int .i64 0, .int .i64 0, .string ⟨#[]⟩, .int .i64 0, .int .i64 (1000000000 + bel a0 1000), .int .i64 (bel a1 1000000000), .slice none 0 0, .int .i64 0, .slice none 0 0, .slice none 0 0, .slice none 0 0, .slice none 0 0, .slice none 0 0, .slice none 0 0, .slice none 0 0, .slice none 0 0, .slice none 0 0, .string ⟨#[]⟩] 30)).alloc (.cells #[.int .i64 (1000000000 + bel a3 2000), .int .i64 (bel a4 1000000000)] 24)) = W at b1 b2 hW ⊢
    refine wp_flow_use [(2, .int .i64 (bel a2 1000000000000)), (5, .int .i64 (bel a5 1099511627776)), (6, .int .i64 (bel a6 1099511627776)), (15, .pointer (some ⟨w.heap.size, 0, none⟩)), (16, .pointer (some ⟨w.heap.size + 1, 0, none⟩))]
      [FItem.eq 58 (.agg #[.int .i64 0, .int .i64 0, .string ⟨#[]⟩, .int .i64 0, .int .i64 (1000000000 + bel a0 1000), .int .i64 (bel a1 1000000000), .slice none 0 0, .int .i64 0, .slice none 0 0, .slice none 0 0, .slice none 0 0, .slice none 0 0, .slice none 0 0, .slice none 0 0, .slice none 0 0, .slice none 0 0, .slice none 0 0, .string ⟨#[]⟩]),
       FItem.eq 59 (.int .i64 (bel a2 1000000000000)),
       FItem.eq 60 (.agg #[.int .i64 (1000000000 + bel a3 2000), .int .i64 (bel a4 1000000000)]),
       FItem.eq 61 (.bool (!laterB (addS (1000000000 + bel a0 1000) (bel a1 1000000000) (bel a2 1000000000000)) (addN (bel a1 1000000000) (bel a2 1000000000000)) (1000000000 + bel a3 2000) (bel a4 1000000000))),
       FItem.eq 62 (.agg #[.int .i64 0, .int .i64 0, .string ⟨#[]⟩, .int .i64 0, .int .i64 (1000000000 + bel a0 1000), .int .i64 (bel a1 1000000000), .slice none 0 0, .int .i64 0, .slice none 0 0, .slice none 0 0, .slice none 0 0, .slice none 0 0, .slice none 0 0, .slice none 0 0, .slice none 0 0, .slice none 0 0, .slice none 0 0, .string ⟨#[]⟩]),
       FItem.eq 63 (.agg #[.int .i64 0, .int .i64 0, .string ⟨#[]⟩, .int .i64 0, .int .i64 (1000000000 + bel a0 1000), .int .i64 (bel a1 1000000000), .slice none 0 0, .int .i64 0, .slice none 0 0, .slice none 0 0, .slice none 0 0, .slice none 0 0, .slice none 0 0, .slice none 0 0, .slice none 0 0, .slice none 0 0, .slice none 0 0, .string ⟨#[]⟩]),
       FItem.eq 64 (.int .i64 (bel a2 1000000000000)),
       FItem.eq 65 (.agg #[.int .i64 (1000000000 + bel a3 2000), .int .i64 (bel a4 1000000000)]),
       FItem.eq 66 (.bool (!laterB (addS (1000000000 + bel a0 1000) (bel a1 1000000000) (bel a2 1000000000000)) (addN (bel a1 1000000000) (bel a2 1000000000000)) (1000000000 + bel a3 2000) (bel a4 1000000000))),
       FItem.eq 67 (.bool true),
       FItem.eq 68 (.bool true),
       FItem.eq 69 (.int .i64 (bel a5 1099511627776)),
       FItem.eq 70 (.int .i64 (bel a6 1099511627776)),
       FItem.eq 71 (.bool (lvlB (bel a5 1099511627776) (bel a6 1099511627776))),
       FItem.eq 72 (.int .i64 (bel a5 1099511627776)),
       FItem.eq 73 (.int .i64 (bel a6 1099511627776)),
       FItem.eq 74 (.bool (lvlB (bel a5 1099511627776) (bel a6 1099511627776))),
       FItem.eq 75 (.bool true),
       FItem.eq 76 (.bool true),
       FItem.eq 77 (.bool true),
       FItem.eq 78 (.int .i64 (bel a5 1099511627776)),
       FItem.eq 79 (.int .i64 (bel a5 1099511627776 % 9)),
       FItem.eq 80 (.int .i64 (bel a6 1099511627776)),
       FItem.eq 81 (.int .i64 (bel a6 1099511627776 % 9)),
       FItem.eq 82 (.bool (lvlB (bel a5 1099511627776 % 9) (bel a6 1099511627776 % 9))),
       FItem.eq 83 (.int .i64 (bel a5 1099511627776)),
       FItem.eq 84 (.int .i64 (bel a5 1099511627776 % 9)),
       FItem.eq 85 (.int .i64 (bel a6 1099511627776)),
       FItem.eq 86 (.int .i64 (bel a6 1099511627776 % 9)),
       FItem.eq 87 (.bool (lvlB (bel a5 1099511627776 % 9) (bel a6 1099511627776 % 9))),
       FItem.eq 88 (.bool true),
       FItem.eq 89 (.bool true),
       FItem.eq 14 (.bool true)]
      90 (by kernel_rfl) (by kernel_rfl) (by kernel_rfl) rfl ⟨rfl, rfl, rfl, rfl, rfl, trivial⟩
      ⟨(fun a u hb hs hl hd K hK => by
        obtain ⟨l2, l5, l6, l15, l16, -⟩ := hl
        have s15 := gd l15
        clear hd
        refine step_plain rfl ?_
        exact wp_load_row 30 (.tmp 15) rfl w.heap.size l15 30 _ (0, 0) _ (b1.below hb b1.lt) Try.underlying30 rfl (by kernel_rfl) (hK _ _ (Below.refl _ _) (eq_put hs (by decide)))),
       (fun a u hb hs hl hd K hK => by
        obtain ⟨l2, l5, l6, l15, l16, -⟩ := hl
        have s2 := gd l2
        clear hd
        refine step_plain rfl ?_
        go_simp; exact hK _ _ (Below.refl _ _) (eq_put hs (by decide))),
       (fun a u hb hs hl hd K hK => by
        obtain ⟨l2, l5, l6, l15, l16, -⟩ := hl
        have s16 := gd l16
        clear hd
        refine step_plain rfl ?_
        exact wp_load_row 24 (.tmp 16) rfl (w.heap.size + 1) l16 24 _ (0, 0) _ (b2.below hb b2.lt) Try.underlying24 rfl (by kernel_rfl) (hK _ _ (Below.refl _ _) (eq_put hs (by decide)))),
       (fun a u hb hs hl hd K hK => by
        obtain ⟨l2, l5, l6, l15, l16, -⟩ := hl
        have s58 : a.tmps[58]?.getD undef = .agg #[.int .i64 0, .int .i64 0, .string ⟨#[]⟩, .int .i64 0, .int .i64 (1000000000 + bel a0 1000), .int .i64 (bel a1 1000000000), .slice none 0 0, .int .i64 0, .slice none 0 0, .slice none 0 0, .slice none 0 0, .slice none 0 0, .slice none 0 0, .slice none 0 0, .slice none 0 0, .slice none 0 0, .slice none 0 0, .string ⟨#[]⟩] := gd (dep_get hd 0 (by kernel_rfl) rfl)
        have s59 : a.tmps[59]?.getD undef = .int .i64 (bel a2 1000000000000) := gd (dep_get hd 1 (by kernel_rfl) rfl)
        have s60 : a.tmps[60]?.getD undef = .agg #[.int .i64 (1000000000 + bel a3 2000), .int .i64 (bel a4 1000000000)] := gd (dep_get hd 2 (by kernel_rfl) rfl)
        clear hd
        refine step_plain rfl ?_
        go_simp; refine (c_iOld _ _ _ _ _ _ (by omega) (by omega) (by omega) (by omega) (by omega)).mono ?_; rintro e u1 ⟨rfl, hb1⟩; exact hK _ _ hb1 (eq_put hs (by decide))),
       (fun a u hb hs hl hd K hK => by
        obtain ⟨l2, l5, l6, l15, l16, -⟩ := hl
        have s15 := gd l15
        clear hd
        refine step_plain rfl ?_
        exact wp_load_row 30 (.tmp 15) rfl w.heap.size l15 30 _ (0, 0) _ (b1.below hb b1.lt) Try.underlying30 rfl (by kernel_rfl) (hK _ _ (Below.refl _ _) (eq_put hs (by decide)))),
       (fun a u hb hs hl hd K hK => by
        obtain ⟨l2, l5, l6, l15, l16, -⟩ := hl
        have s62 : a.tmps[62]?.getD undef = .agg #[.int .i64 0, .int .i64 0, .string ⟨#[]⟩, .int .i64 0, .int .i64 (1000000000 + bel a0 1000), .int .i64 (bel a1 1000000000), .slice none 0 0, .int .i64 0, .slice none 0 0, .slice none 0 0, .slice none 0 0, .slice none 0 0, .slice none 0 0, .slice none 0 0, .slice none 0 0, .slice none 0 0, .slice none 0 0, .string ⟨#[]⟩] := gd (dep_get hd 4 (by kernel_rfl) rfl)
        clear hd
        refine step_plain rfl ?_
        go_simp; refine (c_lheader 0 0 0 _ _ 0 ⟨#[]⟩ ⟨#[]⟩ ⟨none, 0, 0⟩ ⟨none, 0, 0⟩ ⟨none, 0, 0⟩ ⟨none, 0, 0⟩ ⟨none, 0, 0⟩ ⟨none, 0, 0⟩ ⟨none, 0, 0⟩ ⟨none, 0, 0⟩ ⟨none, 0, 0⟩ ⟨none, 0, 0⟩ _).mono ?_; rintro e u1 ⟨rfl, hb1⟩; exact hK _ _ hb1 (eq_put hs (by decide))),
       (fun a u hb hs hl hd K hK => by
        obtain ⟨l2, l5, l6, l15, l16, -⟩ := hl
        have s2 := gd l2
        clear hd
        refine step_plain rfl ?_
        go_simp; exact hK _ _ (Below.refl _ _) (eq_put hs (by decide))),
       (fun a u hb hs hl hd K hK => by
        obtain ⟨l2, l5, l6, l15, l16, -⟩ := hl
        have s16 := gd l16
        clear hd
        refine step_plain rfl ?_
        exact wp_load_row 24 (.tmp 16) rfl (w.heap.size + 1) l16 24 _ (0, 0) _ (b2.below hb b2.lt) Try.underlying24 rfl (by kernel_rfl) (hK _ _ (Below.refl _ _) (eq_put hs (by decide)))),
       (fun a u hb hs hl hd K hK => by
        obtain ⟨l2, l5, l6, l15, l16, -⟩ := hl
        have s63 : a.tmps[63]?.getD undef = .agg #[.int .i64 0, .int .i64 0, .string ⟨#[]⟩, .int .i64 0, .int .i64 (1000000000 + bel a0 1000), .int .i64 (bel a1 1000000000), .slice none 0 0, .int .i64 0, .slice none 0 0, .slice none 0 0, .slice none 0 0, .slice none 0 0, .slice none 0 0, .slice none 0 0, .slice none 0 0, .slice none 0 0, .slice none 0 0, .string ⟨#[]⟩] := gd (dep_get hd 5 (by kernel_rfl) rfl)
        have s64 : a.tmps[64]?.getD undef = .int .i64 (bel a2 1000000000000) := gd (dep_get hd 6 (by kernel_rfl) rfl)
        have s65 : a.tmps[65]?.getD undef = .agg #[.int .i64 (1000000000 + bel a3 2000), .int .i64 (bel a4 1000000000)] := gd (dep_get hd 7 (by kernel_rfl) rfl)
        clear hd
        refine step_plain rfl ?_
        go_simp; refine (c_sOld _ _ _ _ _ _ (by omega) (by omega) (by omega)).mono ?_; rintro e u1 ⟨rfl, hb1⟩; exact hK _ _ hb1 (eq_put hs (by decide))),
       (fun a u hb hs hl hd K hK => by
        obtain ⟨l2, l5, l6, l15, l16, -⟩ := hl
        have s61 : a.tmps[61]?.getD undef = .bool (!laterB (addS (1000000000 + bel a0 1000) (bel a1 1000000000) (bel a2 1000000000000)) (addN (bel a1 1000000000) (bel a2 1000000000000)) (1000000000 + bel a3 2000) (bel a4 1000000000)) := gd (dep_get hd 3 (by kernel_rfl) rfl)
        have s66 : a.tmps[66]?.getD undef = .bool (!laterB (addS (1000000000 + bel a0 1000) (bel a1 1000000000) (bel a2 1000000000000)) (addN (bel a1 1000000000) (bel a2 1000000000000)) (1000000000 + bel a3 2000) (bel a4 1000000000)) := gd (dep_get hd 8 (by kernel_rfl) rfl)
        clear hd
        refine step_plain rfl ?_
        go_simp; exact hK _ _ (Below.refl _ _) (eq_put hs (by decide))),
       (fun a u hb hs hl hd K hK => by
        obtain ⟨l2, l5, l6, l15, l16, -⟩ := hl
        have s67 : a.tmps[67]?.getD undef = .bool true := gd (dep_get hd 9 (by kernel_rfl) rfl)
        clear hd
        refine step_plain rfl ?_
        go_simp; exact hK _ _ (Below.refl _ _) (eq_put hs (by decide))),
       (fun a u hb hs hl hd K hK => by
        obtain ⟨l2, l5, l6, l15, l16, -⟩ := hl
        have s5 := gd l5
        have g68 : a.tmps.getD 68 undef = .bool true := dep_get hd 10 (by kernel_rfl) rfl
        clear hd
        refine step_yes rfl (j := 10) (d := 68) rfl rfl g68 ?_
        go_simp; exact hK _ _ (Below.refl _ _) (eq_put hs (by decide))),
       (fun a u hb hs hl hd K hK => by
        obtain ⟨l2, l5, l6, l15, l16, -⟩ := hl
        have s6 := gd l6
        have g68 : a.tmps.getD 68 undef = .bool true := dep_get hd 10 (by kernel_rfl) rfl
        clear hd
        refine step_yes rfl (j := 10) (d := 68) rfl rfl g68 ?_
        go_simp; exact hK _ _ (Below.refl _ _) (eq_put hs (by decide))),
       (fun a u hb hs hl hd K hK => by
        obtain ⟨l2, l5, l6, l15, l16, -⟩ := hl
        have s69 : a.tmps[69]?.getD undef = .int .i64 (bel a5 1099511627776) := gd (dep_get hd 11 (by kernel_rfl) rfl)
        have s70 : a.tmps[70]?.getD undef = .int .i64 (bel a6 1099511627776) := gd (dep_get hd 12 (by kernel_rfl) rfl)
        have g68 : a.tmps.getD 68 undef = .bool true := dep_get hd 10 (by kernel_rfl) rfl
        clear hd
        refine step_yes rfl (j := 10) (d := 68) rfl rfl g68 ?_
        go_simp; refine (c_iLevel _ _ _ (by omega) (by omega)).mono ?_; rintro e u1 ⟨rfl, hb1⟩; exact hK _ _ hb1 (eq_put hs (by decide))),
       (fun a u hb hs hl hd K hK => by
        obtain ⟨l2, l5, l6, l15, l16, -⟩ := hl
        have s5 := gd l5
        have g68 : a.tmps.getD 68 undef = .bool true := dep_get hd 10 (by kernel_rfl) rfl
        clear hd
        refine step_yes rfl (j := 10) (d := 68) rfl rfl g68 ?_
        go_simp; exact hK _ _ (Below.refl _ _) (eq_put hs (by decide))),
       (fun a u hb hs hl hd K hK => by
        obtain ⟨l2, l5, l6, l15, l16, -⟩ := hl
        have s6 := gd l6
        have g68 : a.tmps.getD 68 undef = .bool true := dep_get hd 10 (by kernel_rfl) rfl
        clear hd
        refine step_yes rfl (j := 10) (d := 68) rfl rfl g68 ?_
        go_simp; exact hK _ _ (Below.refl _ _) (eq_put hs (by decide))),
       (fun a u hb hs hl hd K hK => by
        obtain ⟨l2, l5, l6, l15, l16, -⟩ := hl
        have s72 : a.tmps[72]?.getD undef = .int .i64 (bel a5 1099511627776) := gd (dep_get hd 14 (by kernel_rfl) rfl)
        have s73 : a.tmps[73]?.getD undef = .int .i64 (bel a6 1099511627776) := gd (dep_get hd 15 (by kernel_rfl) rfl)
        have g68 : a.tmps.getD 68 undef = .bool true := dep_get hd 10 (by kernel_rfl) rfl
        clear hd
        refine step_yes rfl (j := 10) (d := 68) rfl rfl g68 ?_
        go_simp; refine (c_sLevel _ _ _ (by omega) (by omega)).mono ?_; rintro e u1 ⟨rfl, rfl⟩; exact hK _ _ (Below.refl _ _) (eq_put hs (by decide))),
       (fun a u hb hs hl hd K hK => by
        obtain ⟨l2, l5, l6, l15, l16, -⟩ := hl
        have s71 : a.tmps[71]?.getD undef = .bool (lvlB (bel a5 1099511627776) (bel a6 1099511627776)) := gd (dep_get hd 13 (by kernel_rfl) rfl)
        have s74 : a.tmps[74]?.getD undef = .bool (lvlB (bel a5 1099511627776) (bel a6 1099511627776)) := gd (dep_get hd 16 (by kernel_rfl) rfl)
        have g68 : a.tmps.getD 68 undef = .bool true := dep_get hd 10 (by kernel_rfl) rfl
        clear hd
        refine step_yes rfl (j := 10) (d := 68) rfl rfl g68 ?_
        go_simp; exact hK _ _ (Below.refl _ _) (eq_put hs (by decide))),
       (fun a u hb hs hl hd K hK => by
        obtain ⟨l2, l5, l6, l15, l16, -⟩ := hl
        have s68 : a.tmps[68]?.getD undef = .bool true := gd (dep_get hd 10 (by kernel_rfl) rfl)
        have s75 : a.tmps[75]?.getD undef = .bool true := gd (dep_get hd 17 (by kernel_rfl) rfl)
        clear hd
        refine step_plain rfl ?_
        go_simp; exact hK _ _ (Below.refl _ _) (eq_put hs (by decide))),
       (fun a u hb hs hl hd K hK => by
        obtain ⟨l2, l5, l6, l15, l16, -⟩ := hl
        have s76 : a.tmps[76]?.getD undef = .bool true := gd (dep_get hd 18 (by kernel_rfl) rfl)
        clear hd
        refine step_plain rfl ?_
        go_simp; exact hK _ _ (Below.refl _ _) (eq_put hs (by decide))),
       (fun a u hb hs hl hd K hK => by
        obtain ⟨l2, l5, l6, l15, l16, -⟩ := hl
        have s5 := gd l5
        have g77 : a.tmps.getD 77 undef = .bool true := dep_get hd 19 (by kernel_rfl) rfl
        clear hd
        refine step_yes rfl (j := 19) (d := 77) rfl rfl g77 ?_
        go_simp; exact hK _ _ (Below.refl _ _) (eq_put hs (by decide))),
       (fun a u hb hs hl hd K hK => by
        obtain ⟨l2, l5, l6, l15, l16, -⟩ := hl
        have s78 : a.tmps[78]?.getD undef = .int .i64 (bel a5 1099511627776) := gd (dep_get hd 20 (by kernel_rfl) rfl)
        have g77 : a.tmps.getD 77 undef = .bool true := dep_get hd 19 (by kernel_rfl) rfl
        clear hd
        refine step_yes rfl (j := 19) (d := 77) rfl rfl g77 ?_
        go_simp; exact hK _ _ (Below.refl _ _) (eq_put hs (by decide))),
       (fun a u hb hs hl hd K hK => by
        obtain ⟨l2, l5, l6, l15, l16, -⟩ := hl
        have s6 := gd l6
        have g77 : a.tmps.getD 77 undef = .bool true := dep_get hd 19 (by kernel_rfl) rfl
        clear hd
        refine step_yes rfl (j := 19) (d := 77) rfl rfl g77 ?_
        go_simp; exact hK _ _ (Below.refl _ _) (eq_put hs (by decide))),
       (fun a u hb hs hl hd K hK => by
        obtain ⟨l2, l5, l6, l15, l16, -⟩ := hl
        have s80 : a.tmps[80]?.getD undef = .int .i64 (bel a6 1099511627776) := gd (dep_get hd 22 (by kernel_rfl) rfl)
        have g77 : a.tmps.getD 77 undef = .bool true := dep_get hd 19 (by kernel_rfl) rfl
        clear hd
        refine step_yes rfl (j := 19) (d := 77) rfl rfl g77 ?_
        go_simp; exact hK _ _ (Below.refl _ _) (eq_put hs (by decide))),
       (fun a u hb hs hl hd K hK => by
        obtain ⟨l2, l5, l6, l15, l16, -⟩ := hl
        have s79 : a.tmps[79]?.getD undef = .int .i64 (bel a5 1099511627776 % 9) := gd (dep_get hd 21 (by kernel_rfl) rfl)
        have s81 : a.tmps[81]?.getD undef = .int .i64 (bel a6 1099511627776 % 9) := gd (dep_get hd 23 (by kernel_rfl) rfl)
        have g77 : a.tmps.getD 77 undef = .bool true := dep_get hd 19 (by kernel_rfl) rfl
        clear hd
        refine step_yes rfl (j := 19) (d := 77) rfl rfl g77 ?_
        go_simp; refine (c_iLevel _ _ _ (by omega) (by omega)).mono ?_; rintro e u1 ⟨rfl, hb1⟩; exact hK _ _ hb1 (eq_put hs (by decide))),
       (fun a u hb hs hl hd K hK => by
        obtain ⟨l2, l5, l6, l15, l16, -⟩ := hl
        have s5 := gd l5
        have g77 : a.tmps.getD 77 undef = .bool true := dep_get hd 19 (by kernel_rfl) rfl
        clear hd
        refine step_yes rfl (j := 19) (d := 77) rfl rfl g77 ?_
        go_simp; exact hK _ _ (Below.refl _ _) (eq_put hs (by decide))),
       (fun a u hb hs hl hd K hK => by
        obtain ⟨l2, l5, l6, l15, l16, -⟩ := hl
        have s83 : a.tmps[83]?.getD undef = .int .i64 (bel a5 1099511627776) := gd (dep_get hd 25 (by kernel_rfl) rfl)
        have g77 : a.tmps.getD 77 undef = .bool true := dep_get hd 19 (by kernel_rfl) rfl
        clear hd
        refine step_yes rfl (j := 19) (d := 77) rfl rfl g77 ?_
        go_simp; exact hK _ _ (Below.refl _ _) (eq_put hs (by decide))),
       (fun a u hb hs hl hd K hK => by
        obtain ⟨l2, l5, l6, l15, l16, -⟩ := hl
        have s6 := gd l6
        have g77 : a.tmps.getD 77 undef = .bool true := dep_get hd 19 (by kernel_rfl) rfl
        clear hd
        refine step_yes rfl (j := 19) (d := 77) rfl rfl g77 ?_
        go_simp; exact hK _ _ (Below.refl _ _) (eq_put hs (by decide))),
       (fun a u hb hs hl hd K hK => by
        obtain ⟨l2, l5, l6, l15, l16, -⟩ := hl
        have s85 : a.tmps[85]?.getD undef = .int .i64 (bel a6 1099511627776) := gd (dep_get hd 27 (by kernel_rfl) rfl)
        have g77 : a.tmps.getD 77 undef = .bool true := dep_get hd 19 (by kernel_rfl) rfl
        clear hd
        refine step_yes rfl (j := 19) (d := 77) rfl rfl g77 ?_
        go_simp; exact hK _ _ (Below.refl _ _) (eq_put hs (by decide))),
       (fun a u hb hs hl hd K hK => by
        obtain ⟨l2, l5, l6, l15, l16, -⟩ := hl
        have s84 : a.tmps[84]?.getD undef = .int .i64 (bel a5 1099511627776 % 9) := gd (dep_get hd 26 (by kernel_rfl) rfl)
        have s86 : a.tmps[86]?.getD undef = .int .i64 (bel a6 1099511627776 % 9) := gd (dep_get hd 28 (by kernel_rfl) rfl)
        have g77 : a.tmps.getD 77 undef = .bool true := dep_get hd 19 (by kernel_rfl) rfl
        clear hd
        refine step_yes rfl (j := 19) (d := 77) rfl rfl g77 ?_
        go_simp; refine (c_sLevel _ _ _ (by omega) (by omega)).mono ?_; rintro e u1 ⟨rfl, rfl⟩; exact hK _ _ (Below.refl _ _) (eq_put hs (by decide))),
       (fun a u hb hs hl hd K hK => by
        obtain ⟨l2, l5, l6, l15, l16, -⟩ := hl
        have s82 : a.tmps[82]?.getD undef = .bool (lvlB (bel a5 1099511627776 % 9) (bel a6 1099511627776 % 9)) := gd (dep_get hd 24 (by kernel_rfl) rfl)
        have s87 : a.tmps[87]?.getD undef = .bool (lvlB (bel a5 1099511627776 % 9) (bel a6 1099511627776 % 9)) := gd (dep_get hd 29 (by kernel_rfl) rfl)
        have g77 : a.tmps.getD 77 undef = .bool true := dep_get hd 19 (by kernel_rfl) rfl
        clear hd
        refine step_yes rfl (j := 19) (d := 77) rfl rfl g77 ?_
        go_simp; exact hK _ _ (Below.refl _ _) (eq_put hs (by decide))),
       (fun a u hb hs hl hd K hK => by
        obtain ⟨l2, l5, l6, l15, l16, -⟩ := hl
        have s77 : a.tmps[77]?.getD undef = .bool true := gd (dep_get hd 19 (by kernel_rfl) rfl)
        have s88 : a.tmps[88]?.getD undef = .bool true := gd (dep_get hd 30 (by kernel_rfl) rfl)
        clear hd
        refine step_plain rfl ?_
        go_simp; exact hK _ _ (Below.refl _ _) (eq_put hs (by decide))),
       (fun a u hb hs hl hd K hK => by
        obtain ⟨l2, l5, l6, l15, l16, -⟩ := hl
        have s89 : a.tmps[89]?.getD undef = .bool true := gd (dep_get hd 31 (by kernel_rfl) rfl)
        clear hd
        refine step_plain rfl ?_
        go_simp; exact hK _ _ (Below.refl _ _) (eq_put hs (by decide))),
       trivial⟩ ?_
    intro a u hb hs hdf hl hh
    have s14 : a.tmps.getD 14 undef = .bool true := hold_eq hh 32 rfl
    clear hh hl
    go_wp2
    refine bodyPost_ret (results_tmp rfl _ _ _) (hdf.trans rfl) ?_
    rw [s14]
    exact ⟨rfl, bz_then hW hb⟩
end Go.Proofs.Ytjbigacgcapfdaa
