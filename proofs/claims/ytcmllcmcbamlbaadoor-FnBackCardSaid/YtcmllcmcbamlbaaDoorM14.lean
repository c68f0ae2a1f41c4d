/- A list made a set. (Printed by gen_set.py.) A header made. (Printed by gen_headed.py.) -/
import Derived.Test.YtcmllcmcbamlbaaDoorM13
import Derived.Test.YtcmllcmcbamlbaaDoorM12
import Derived.Test.YtcmllcmcbamlbaaDoorM10
import Derived.Test.YtcmllcmcbamlbaaDoorM11
import Derived.Test.YtcmllcmcbamlbaaDoorM9
set_option linter.unusedVariables false
set_option linter.unusedSimpArgs false
namespace Go.Proofs.YtcmllcmcbamlbaaDoor
open Go.RowKit
/-- What a set is. -/
structure SetOk (S : List Seat) : Prop where
 good : Good S
 nodup : (S.map Seat.a).Nodup
 le : S.length ≤ 20
theorem SetOk.perm {S S' : List Seat} (h : SetOk S) (hp : List.Perm S' S) : SetOk S' :=
 ⟨fun s hs => h.good s (hp.mem_iff.1 hs), ((hp.map Seat.a).nodup_iff).2 h.nodup, by rw [hp.length_eq]; exact h.le⟩
/-- What goes in: keys that are no longer than zzMost, powers that are ints. -/
structure Seat.raw (s : Seat) : Prop where
 k : s.k.size ≤ 2147483647
 p : -9223372036854775808 ≤ s.p ∧ s.p ≤ 9223372036854775807
/-- A slot that holds a slice of one struct, just built. -/
def RowAt1 (T : TypeId) (r : List Value) (v : Value) (w : World) : Prop := ∃ g c2, v = .slice (some ⟨g, 0, none⟩) 1 c2 ∧ Blk w g T r.toArray
theorem RowAt1.after {T : TypeId} {r : List Value} {v : Value} {w w' : World} (h : RowAt1 T r v w) (hb : Below w.heap.size w w') : RowAt1 T r v w' := by
 obtain ⟨g, c2, h1, h2⟩ := h
 exact ⟨g, c2, h1, h2.after hb⟩
def FItem.row (t : Nat) (T : TypeId) (r : List Value) : FItem := { reads := [t], fact := fun vs w => ∃ v, vs = [v] ∧ RowAt1 T r v w, keeps := fun _ _ _ hb ⟨v, h1, h2⟩ => ⟨v, h1, h2.after hb⟩ }
theorem FItem.row_holds {t : Nat} {T : TypeId} {r : List Value} {a : Act} {w : World} : (FItem.row t T r).holds a w ↔ RowAt1 T r (a.tmps.getD t undef) w := by
 constructor
 ·rintro ⟨v, h1, h2⟩
  injection h1 with h1
  have h1 : a.tmps.getD t undef = v := h1
  rwa [h1]
 ·exact fun h => ⟨_, rfl, h⟩
theorem row_put {a : Act} {d : Nat} {T : TypeId} {r : List Value} {v : Value} {w : World} {sz : Nat} (hs : SzIs a sz) (hd : d < sz) (h : RowAt1 T r v w) : (FItem.row d T r).holds (a.put (some d) v) w := FItem.row_holds.2 (by rw [put_self a d v (by rw [hs.out]; exact hd)]; exact h)
theorem RowAt1.new (w : World) (T : TypeId) (r : List Value) : RowAt1 T r (.slice (some ⟨w.heap.size, 0, none⟩) 1 1) (w.alloc (.cells r.toArray T)) := ⟨_, _, rfl, Blk.new w _ _⟩
theorem Bs.take {w : World} {A : Option Addr} {l : List Int} (h : Bs w A l) (k : Nat) : Bs w A (l.take k) := fun i hi => by
 rw [List.length_take] at hi
 obtain ⟨b, o, h1, h2, h3⟩ := h i (by omega)
 refine ⟨b, o, h1, h2, ?_⟩
 rw [h3]
 congr 2
 rw [List.getD_eq_getElem?_getD, List.getD_eq_getElem?_getD, List.getElem?_take, if_pos (by omega)]
theorem setCell_alloc1 (w : World) (u v : Value) (t : TypeId) : (w.alloc (.cells #[u] t)).setCell ⟨w.heap.size, 0, none⟩ v = w.alloc (.cells #[v] t) := by
 have h1 : (w.alloc (.cells #[u] t)) = { w with heap := w.heap.push (.cells #[u] t) } := rfl
 have h2 : (w.alloc (.cells #[v] t)) = { w with heap := w.heap.push (.cells #[v] t) } := rfl
 rw [h1, h2]
 unfold World.setCell
 congr 1
 apply Array.ext
 ·simp
 ·intro i hi hi'
  simp only [Array.getElem_modify, Array.getElem_push]
  simp at hi
  by_cases h : w.heap.size = i
  ·subst h; simp
  ·rw [if_neg h]
   have : i < w.heap.size := by omega
   simp [this]
theorem OwnR.fm_ {e : TypeId} {k base n : Nat} {w : World} {A : Option Addr} {c : Nat} {R : List (List Value)} (h : OwnR e k base w A c R) (hn : R.length = n) : Fm A n c := by
 rcases h.form with ⟨h1, h2, h3⟩ | ⟨g, cur, h1, _⟩
 ·exact .inl ⟨h1, h2, by rw [← hn, h3]; rfl⟩
 ·exact .inr ⟨g, 0, h1⟩

set_option maxHeartbeats 4000000 in
set_option maxRecDepth 100000 in
theorem c_set (L : List Seat) (A : Option Addr) (c : Nat) (w : World) (hL : SeatsAt w A L) (hf : Fm A L.length c ∨ ∃ ad, A = some ad ∧ L = []) (hc : L.length ≤ c) (hcm : c ≤ 9223372036854775807) (hr : ∀ s ∈ L, s.raw) :
  Calls Tryd.prog 5 #[.slice A L.length c] w fun e w' => ∃ S A' c', e = .returned (.slice A' S.length c') ∧ SetOk S ∧ SeatsAt w' A' S ∧ Fm A' S.length c' ∧ S.length ≤ c' ∧ Below w.heap.size w w' := by
 suffices h : ∀ w0, (SeatsAt w0 A L) → Below w0.heap.size w0 w → Calls Tryd.prog 5 #[.slice A L.length c] w fun e w' => ∃ S A' c', e = .returned (.slice A' S.length c') ∧ SetOk S ∧ SeatsAt w' A' S ∧ Fm A' S.length c' ∧ S.length ≤ c' ∧ Below w0.heap.size w0 w' from h w hL (bz_refl w)
 clear hL
 intro w0 hL hB
 refine enter_abs Tryd.func5 rfl 45 rfl (by simp) ?_
 intro a hs hd hargs
 have s0 := hargs 0 _ rfl
 clear hargs
 refine wp_seq ?_
 refine wp_region_list ?_
 show wpList _ _ _ [_] _ _
 refine tail_op rfl (fun K hK => ?_)
 go_simp
 refine hK _ _ ?_
 clear hK K
 refine act_put (d := 2) _ hs hd (by decide) [(0, _)] ⟨s0, trivial⟩ rfl ?_
 clear hs hd s0
 intro a hs hd zl
 refine wp_seq ?_
 refine wp_region_list ?_
 show wpList _ _ _ [_] _ _
 refine tail_op rfl (fun K hK => ?_)
 go_simp
 refine hK _ _ (tP hs hd zl ?_)
 clear hK K hs hd zl
 intro a hs hd zl
 rcases hf with (⟨rfl, rfl, h0⟩ | ⟨b, o, rfl⟩) | ⟨ad, rfl, h0⟩
 rotate_left 2
 ·subst h0
  clear hr hL
  refine wp_seq ?_
  refine wp_seq ?_
  refine wp_region_list ?_
  show wpList _ _ _ [_, _, _, _, _, _, _] _ _
  refine tail_op rfl (fun K hK => ?_)
  have q0 := gL zl 2
  go_simp
  clear q0
  refine hK _ _ (tP hs hd zl ?_)
  clear hK K hs hd zl
  intro a hs hd zl
  refine tail_op rfl (fun K hK => ?_)
  have q0 := gL zl 3
  go_simp
  clear q0
  refine hK _ _ (tP hs hd zl ?_)
  clear hK K hs hd zl
  intro a hs hd zl
  refine tail_op rfl (fun K hK => ?_)
  have q8 := gL zl 0
  go_simp
  clear q8
  refine hK _ _ (tP hs hd zl ?_)
  clear hK K hs hd zl
  intro a hs hd zl
  refine tail_op rfl (fun K hK => ?_)
  have q9 := gL zl 0
  go_simp
  clear q9
  refine hK _ _ (tP hs hd zl ?_)
  clear hK K hs hd zl
  intro a hs hd zl
  refine tail_op rfl (fun K hK => ?_)
  have q7 := gL zl 3
  have q10 := gL zl 0
  go_simp
  clear q7 q10
  refine hK _ _ (tP hs hd zl ?_)
  clear hK K hs hd zl
  intro a hs hd zl
  refine tail_op rfl (fun K hK => ?_)
  have q11 := gL zl 0
  go_simp
  clear q11
  refine hK _ _ (tP hs hd zl ?_)
  clear hK K hs hd zl
  intro a hs hd zl
  refine tail_op rfl (fun K hK => ?_)
  go_simp
  refine hK _ _ (tP hs hd zl ?_)
  clear hK K hs hd zl
  intro a hs hd zl
  refine wp_block ?_
  refine wp_loop_once ?_
  refine wp_seq ?_
  refine wp_region_list ?_
  show wpList _ _ _ [_] _ _
  refine tail_op rfl (fun K hK => ?_)
  have q12 := gL zl 1
  have q13 := gL zl 0
  go_simp
  clear q12 q13
  refine hK _ _ (tP hs hd zl ?_)
  clear hK K hs hd zl
  intro a hs hd zl
  refine wp_seq ?_
  refine wp_cond_false (vL zl 0) ?_
  refine wp_exit ?_
  repeat refine then_exit ?_
  refine inBlock_exit ?_
  refine wp_seq ?_
  refine wp_region_list ?_
  show wpList _ _ _ [_, _, _] _ _
  refine tail_op rfl (fun K hK => ?_)
  have q3 := gL zl 8
  go_simp
  clear q3
  refine hK _ _ (tP hs hd zl ?_)
  clear hK K hs hd zl
  intro a hs hd zl
  refine tail_op rfl (fun K hK => ?_)
  have q43 := gL zl 0
  go_simp
  refine (c_Ranked [] none 0 _ (RowsAt.nil _ _ _) (fun _ => ⟨rfl, rfl⟩) (by decide)).mono ?_
  rintro e w3 ⟨S', A', c'', rfl, hp, hown', hb2⟩
  clear q43
  refine hK _ _ (tP hs hd zl ?_)
  clear hK K hs hd zl
  intro a hs hd zl
  replace hB := bz_then hB hb2
  clear hb2
  refine tail_op rfl (fun K hK => ?_)
  have q44 := gL zl 0
  go_simp
  clear q44
  refine hK _ _ ?_
  clear hK K
  obtain ⟨s44, s43, s14, -, -, -, -, -, -, -, s3, -, -, -⟩ := zl
  refine act_put (d := 2) _ hs hd (by decide) [(3, _), (14, _), (43, _), (44, _)] ⟨s3, s14, s43, s44, trivial⟩ rfl ?_
  clear hs hd s3 s14 s43 s44
  intro a hs hd zl
  have hok : SetOk [] := ⟨(fun s hs => by cases hs), List.nodup_nil, by decide⟩
  refine wp_ret ?_
  exact end_tmp rfl hd (vL zl 0) ⟨S', A', c'', rfl, hok.perm hp, hown'.rows, hown'.fm_ (seatRows_length _), (by have := hown'.cap; rw [seatRows_length] at this; exact this), hB⟩
 ·have hL0 : L = [] := List.eq_nil_of_length_eq_zero h0
  subst hL0
  clear h0 hr hL
  refine wp_seq ?_
  refine wp_seq ?_
  refine wp_region_list ?_
  show wpList _ _ _ [_, _, _, _, _, _, _] _ _
  refine tail_op rfl (fun K hK => ?_)
  have q0 := gL zl 2
  go_simp
  clear q0
  refine hK _ _ (tP hs hd zl ?_)
  clear hK K hs hd zl
  intro a hs hd zl
  refine tail_op rfl (fun K hK => ?_)
  have q0 := gL zl 3
  go_simp
  clear q0
  refine hK _ _ (tP hs hd zl ?_)
  clear hK K hs hd zl
  intro a hs hd zl
  refine tail_op rfl (fun K hK => ?_)
  have q8 := gL zl 0
  go_simp
  clear q8
  refine hK _ _ (tP hs hd zl ?_)
  clear hK K hs hd zl
  intro a hs hd zl
  refine tail_op rfl (fun K hK => ?_)
  have q9 := gL zl 0
  go_simp
  clear q9
  refine hK _ _ (tP hs hd zl ?_)
  clear hK K hs hd zl
  intro a hs hd zl
  refine tail_op rfl (fun K hK => ?_)
  have q7 := gL zl 3
  have q10 := gL zl 0
  go_simp
  clear q7 q10
  refine hK _ _ (tP hs hd zl ?_)
  clear hK K hs hd zl
  intro a hs hd zl
  refine tail_op rfl (fun K hK => ?_)
  have q11 := gL zl 0
  go_simp
  clear q11
  refine hK _ _ (tP hs hd zl ?_)
  clear hK K hs hd zl
  intro a hs hd zl
  refine tail_op rfl (fun K hK => ?_)
  go_simp
  refine hK _ _ (tP hs hd zl ?_)
  clear hK K hs hd zl
  intro a hs hd zl
  refine wp_block ?_
  refine wp_loop_once ?_
  refine wp_seq ?_
  refine wp_region_list ?_
  show wpList _ _ _ [_] _ _
  refine tail_op rfl (fun K hK => ?_)
  have q12 := gL zl 1
  have q13 := gL zl 0
  go_simp
  clear q12 q13
  refine hK _ _ (tP hs hd zl ?_)
  clear hK K hs hd zl
  intro a hs hd zl
  refine wp_seq ?_
  refine wp_cond_false (vL zl 0) ?_
  refine wp_exit ?_
  repeat refine then_exit ?_
  refine inBlock_exit ?_
  refine wp_seq ?_
  refine wp_region_list ?_
  show wpList _ _ _ [_, _, _] _ _
  refine tail_op rfl (fun K hK => ?_)
  have q3 := gL zl 8
  go_simp
  clear q3
  refine hK _ _ (tP hs hd zl ?_)
  clear hK K hs hd zl
  intro a hs hd zl
  refine tail_op rfl (fun K hK => ?_)
  have q43 := gL zl 0
  go_simp
  refine (c_Ranked [] none 0 _ (RowsAt.nil _ _ _) (fun _ => ⟨rfl, rfl⟩) (by decide)).mono ?_
  rintro e w3 ⟨S', A', c'', rfl, hp, hown', hb2⟩
  clear q43
  refine hK _ _ (tP hs hd zl ?_)
  clear hK K hs hd zl
  intro a hs hd zl
  replace hB := bz_then hB hb2
  clear hb2
  refine tail_op rfl (fun K hK => ?_)
  have q44 := gL zl 0
  go_simp
  clear q44
  refine hK _ _ ?_
  clear hK K
  obtain ⟨s44, s43, s14, -, -, -, -, -, -, -, s3, -, -, -⟩ := zl
  refine act_put (d := 2) _ hs hd (by decide) [(3, _), (14, _), (43, _), (44, _)] ⟨s3, s14, s43, s44, trivial⟩ rfl ?_
  clear hs hd s3 s14 s43 s44
  intro a hs hd zl
  have hok : SetOk [] := ⟨(fun s hs => by cases hs), List.nodup_nil, by decide⟩
  refine wp_ret ?_
  exact end_tmp rfl hd (vL zl 0) ⟨S', A', c'', rfl, hok.perm hp, hown'.rows, hown'.fm_ (seatRows_length _), (by have := hown'.cap; rw [seatRows_length] at this; exact this), hB⟩
 obtain ⟨m, hm⟩ : ∃ m, Is (if L.length ≤ 20 then L.length else 20) m := is_self _
 have hm20 : m ≤ 20 := by rw [← hm.out]; split <;> omega
 have hmL : m ≤ L.length := by rw [← hm.out]; split <;> omega
 have hmc : m ≤ c := by omega
 have hmin : (if (20 : Int) < (L.length : Int) then (20 : Int) else (L.length : Int)) = (m : Int) := by rw [← hm.out]; split <;> split <;> omega
 have hm3 : (m : Int) ≤ (L.length : Int) := by omega
 have hm4 : (m : Int) ≤ (c : Int) := by omega
 have hm5 : (0 : Int) ≤ (m : Int) := by omega
 refine wp_seq ?_
 refine wp_seq ?_
 refine wp_region_list ?_
 show wpList _ _ _ [_, _, _, _, _, _, _] _ _
 refine tail_op rfl (fun K hK => ?_)
 have q0 := gL zl 2
 go_simp
 clear q0
 refine hK _ _ (tP hs hd zl ?_)
 clear hK K hs hd zl
 intro a hs hd zl
 refine tail_op rfl (fun K hK => ?_)
 have q0 := gL zl 3
 go_simp
 clear q0
 refine hK _ _ (tP hs hd zl ?_)
 clear hK K hs hd zl
 intro a hs hd zl
 refine tail_op rfl (fun K hK => ?_)
 have q8 := gL zl 0
 go_simp
 clear q8
 refine hK _ _ (tP hs hd zl ?_)
 clear hK K hs hd zl
 intro a hs hd zl
 refine tail_op rfl (fun K hK => ?_)
 have q9 := gL zl 0
 go_simp
 clear q9
 refine hK _ _ (tP hs hd zl ?_)
 clear hK K hs hd zl
 intro a hs hd zl
 refine tail_op rfl (fun K hK => ?_)
 have q7 := gL zl 3
 have q10 := gL zl 0
 go_simp
 clear q7 q10
 refine hK _ _ (tP hs hd zl ?_)
 clear hK K hs hd zl
 intro a hs hd zl
 refine tail_op rfl (fun K hK => ?_)
 have q11 := gL zl 0
 go_simp
 clear q11
 refine hK _ _ (tP hs hd zl ?_)
 clear hK K hs hd zl
 intro a hs hd zl
 refine tail_op rfl (fun K hK => ?_)
 go_simp
 refine hK _ _ (tP hs hd zl ?_)
 clear hK K hs hd zl
 intro a hs hd zl
 refine wp_block ?_
 obtain ⟨s13, s12, s11, -, -, -, -, s3, -, -, -⟩ := zl
 refine wp_loop (fun a w => ∃ (k : Nat) (S : List Seat) (A : Option Addr) (c' : Nat), SzIs a 45 ∧ DfNil a ∧ LiveAll [(3, .slice A S.length c'), (11, .slice (some ⟨b, o, none⟩) m c), (12, .int .i64 ((m : Nat) : Int)), (13, .int .i64 ((k : Nat) : Int))] a ∧ (k ≤ m) ∧ (Below w0.heap.size w0 w) ∧ (OwnR 50 4 w0.heap.size w A c' (seatRows S)) ∧ (Good S) ∧ ((S.map Seat.a).Nodup) ∧ (S.length ≤ k) ∧ (S = [] → A = none ∧ c' = 0))
  (fun a _ => m - (intOf (a.tmps.getD 13 undef)).toNat) ⟨0, [], none, 0, hs, hd, ⟨s3, s11, s12, s13, trivial⟩, Nat.zero_le _, hB, OwnR.nil _ _ _ _, (fun s hs => by cases hs), List.nodup_nil, Nat.le_refl _, (fun _ => ⟨rfl, rfl⟩)⟩ ?_
 clear hs hd s3 s11 s12 s13
 rintro a w ⟨k, S, A, c', hs, hd, ⟨s3, s11, s12, s13, -⟩, hk, hB, hown, hgd, hnd, hSk, hnl⟩
 have hmm : (intOf (a.tmps.getD 13 undef)).toNat = k := by rw [s13]; simp [intOf]
 rw [hmm]
 clear hmm
 by_cases hlt : k < m
 ·have e1 : decide (k < m) = true := decide_eq_true hlt
  have e2 : decide ((k : Int) < (m : Int)) = true := decide_eq_true (by omega)
  have ew : IntKind.i64.wrap ((k : Int) + 1) = ((k + 1 : Nat) : Int) := by rw [IntWalk.i64_in _ (by omega)]; omega
  obtain ⟨x, hxk⟩ : ∃ x, L[k]? = some x := ⟨L[k]'(by omega), List.getElem?_eq_getElem (by omega)⟩
  have hxr := hr x (List.mem_of_getElem? hxk)
  have hxk1 := hxr.k
  have hxp := hxr.p
  obtain ⟨b', o', hA0, hb0, hcells⟩ := (hL.after hB).at_ (by omega)
  injection hA0 with hA0
  injection hA0 with hA1 hA2
  subst hA1 hA2
  have hck := hcells k x hxk
  clear hcells hxk hmin
  have kc := fun (w : World) => Lib.run_convert_string_bytes (P := Tryd.prog) w 9 23 5 (x.k) Tryd.underlying9 Tryd.underlying23 Tryd.underlying5
  refine wp_seq ?_
  refine wp_region_list ?_
  show wpList _ _ _ [_] _ _
  refine tail_op rfl (fun K hK => ?_)
  have q12 := gd s12
  have q13 := gd s13
  go_simp
  clear q12 q13
  refine hK _ _ ?_
  clear hK K
  refine act_put (d := 14) _ hs hd (by decide) [(3, _), (11, _), (12, _), (13, _)] ⟨s3, s11, s12, s13, trivial⟩ rfl ?_
  clear hs hd s3 s11 s12 s13
  intro a hs hd zl
  refine wp_seq ?_
  refine wp_cond_true (vL zl 0) ?_
  refine wp_skip ?_
  refine wp_seq ?_
  refine wp_block ?_
  refine wp_seq ?_
  refine wp_region_list ?_
  show wpList _ _ _ [_, _, _, _] _ _
  refine tail_op rfl (fun K hK => ?_)
  have q11 := gL zl 2
  have q13 := gL zl 4
  go_simp
  clear q11 q13
  refine hK _ _ (tP hs hd zl ?_)
  clear hK K hs hd zl
  intro a hs hd zl
  refine tail_op rfl (fun K hK => ?_)
  have q15 := gL zl 0
  have s15 := vL zl 0
  refine op_load_cells 47 (.tmp 15) rfl b _ s15 x.cells _ hck rfl rfl (by kernel_rfl) ?_
  clear q15
  refine hK _ _ (tP hs hd zl ?_)
  clear hK K hs hd zl s15
  intro a hs hd zl
  refine tail_op rfl (fun K hK => ?_)
  go_simp
  refine hK _ _ (tP hs hd zl ?_)
  clear hK K hs hd zl
  intro a hs hd zl
  refine tail_op rfl (fun K hK => ?_)
  have q5 := gL zl 0
  have q16 := gL zl 1
  have s5 := vL zl 0
  have s16 := vL zl 1
  refine op_store_row 47 (.tmp 5) (.tmp 16) rfl w.heap.size s5 _ s16 47 _ (Blk.new w _ _) rfl (by kernel_rfl) (seat_one x) ?_
  clear q5 q16
  refine hK _ _ ?_
  clear hK K
  change wpList _ _ _ _ a _
  rw [setRow_alloc_at _ _ _ _ _ rfl]
  obtain ⟨g5, hE⟩ : ∃ B, Is w.heap.size B := is_self _
  generalize hw1 : World.alloc w _ = w1
  have hg5 : Blk w1 g5 47 x.cells.toArray := by rw [← hw1, ← hE.out]; exact Blk.new w _ _
  have hB1 : Below w.heap.size w w1 := by rw [← hw1]; exact bz_alloc (bz_refl w) _
  replace hB := bz_then hB hB1
  replace hown := hown.after hB1
  clear s5 s16
  obtain ⟨s5, s16, s15, s14, s3, s11, s12, s13, -⟩ := zl
  rw [hE.out] at s5
  clear hw1 hB1 hE
  clear hck
  clear s14 s15 s16
  refine wp_seq ?_
  have c1 : w1.cell? ⟨g5, 1, none⟩ = some (.string x.k) := by rw [hg5.cell]; rfl
  refine wp_region_list ?_
  show wpList _ _ _ [_, _, _, _, _, _, _, _] _ _
  refine tail_op rfl (fun K hK => ?_)
  have q5 := gd s5
  go_simp
  clear q5
  refine hK _ _ ?_
  clear hK K
  refine act_put (d := 17) _ hs hd (by decide) [(3, _), (5, _), (11, _), (12, _), (13, _)] ⟨s3, s5, s11, s12, s13, trivial⟩ rfl ?_
  clear hs hd s3 s5 s11 s12 s13
  intro a hs hd zl
  refine tail_op rfl (fun K hK => ?_)
  have q17 := gL zl 0
  go_simp
  clear q17
  refine hK _ _ (tP hs hd zl ?_)
  clear hK K hs hd zl
  intro a hs hd zl
  refine tail_op rfl (fun K hK => ?_)
  have q18 := gL zl 0
  go_simp
  clear q18
  refine hK _ _ (tP hs hd zl ?_)
  clear hK K hs hd zl
  intro a hs hd zl
  have i19 := conv_at w1 5 x.k
  generalize hw1 : Lib.bytesWorld w1 _ _ = w2
  rw [hw1] at i19
  have hB1 : Below w1.heap.size w1 w2 := by rw [← hw1]; exact bz_bytes (bz_refl w1) _ _
  replace hB := bz_then hB hB1
  replace hown := hown.after hB1
  replace hg5 := hg5.after hB1
  clear hw1 hB1 c1 kc
  refine tail_op rfl (fun K hK => ?_)
  have q19 := gL zl 0
  obtain ⟨x19, A19, k19, hx19, hv19, f19, n19, b19, -⟩ := i19
  rw [hv19] at q19
  go_simp
  refine (c_specSum A19 k19 x19 _ b19 (by rw [hx19.out]; exact bytesOf_bytes _) (by rw [hx19.out, bytesOf_length]; omega)).mono ?_
  intro e w3 h
  rw [hx19.out] at h
  obtain ⟨v, rfl, hv, hb2⟩ := h.at0
  clear q19
  refine hK _ _ (tP hs hd zl ?_)
  clear hK K hs hd zl
  intro a hs hd zl
  replace hB := bz_then hB hb2
  replace hown := hown.after hb2
  replace hg5 := hg5.after hb2
  clear hb2 hv19
  refine tail_op rfl (fun K hK => ?_)
  have q20 := gL zl 0
  obtain ⟨x20, A20, k20, hx20, rfl, f20, n20, b20, -⟩ := hv
  have hl20 : x20.length = 32 := by rw [hx20.out]; rfl
  have h8 : Bytes x20 := by rw [hx20.out]; exact sha_bytes _
  obtain ⟨b2, o2, rfl, -, -⟩ := b20.at_ (by omega)
  rw [hl20] at q20 n20
  have hc20 : ¬ (k20 = 20) := by omega
  have hc20' : (20 : Int) ≤ (k20 : Int) := by omega
  have hc20'' : 20 ≤ k20 := by omega
  go_simp
  clear q20
  refine hK _ _ (tP hs hd zl ?_)
  clear hK K hs hd zl
  intro a hs hd zl
  refine tail_op rfl (fun K hK => ?_)
  have q21 := gL zl 0
  have hl2 : (x20.take 20).length = 20 := by rw [List.length_take, hl20]; rfl
  have kb := run_conv_bs (A := some ⟨b2, o2, none⟩) (c := k20) (l := x20.take 20) (.inr ⟨_, _, rfl⟩) (b20.take 20) 23 9 Tryd.underlying23 Tryd.underlying9
  rw [hl2] at kb
  obtain ⟨ad, had⟩ : ∃ s, Is (strOfNums (x20.take 20)) s := is_self _
  have hads : ad.size = 20 := by rw [← had.out, str_size]; exact hl2
  rw [had.out] at kb
  go_simp
  clear q21
  refine hK _ _ (tP hs hd zl ?_)
  clear hK K hs hd zl
  intro a hs hd zl
  refine tail_op rfl (fun K hK => ?_)
  go_simp
  refine hK _ _ (tP hs hd zl ?_)
  clear hK K hs hd zl
  intro a hs hd zl
  refine tail_op rfl (fun K hK => ?_)
  have q6 := gL zl 0
  have q22 := gL zl 1
  go_simp
  clear q6 q22
  refine hK _ _ ?_
  clear hK K
  change wpList _ _ _ _ a _
  obtain ⟨g6, hE⟩ : ∃ B, Is w3.heap.size B := is_self _
  generalize hw1 : World.alloc w3 _ = w4
  have hg6 : Blk w4 g6 9 #[.string ad] := by rw [← hw1, ← hE.out]; exact Blk.new w3 _ _
  have hB1 : Below w3.heap.size w3 w4 := by rw [← hw1]; exact bz_alloc (bz_refl w3) _
  replace hB := bz_then hB hB1
  replace hown := hown.after hB1
  replace hg5 := hg5.after hB1
  obtain ⟨s6, s22, s21, s20, s19, s18, s17, s3, s5, s11, s12, s13, -⟩ := zl
  rw [hE.out] at s6
  clear hw1 hB1 hE
  clear b20 h8 hl20 hl2 hx20 n20 hc20 hc20' hc20'' f20
  clear s17 s18 s19 s20 s21 s22
  have c1 : w4.cell? ⟨g5, 1, none⟩ = some (.string x.k) := by rw [hg5.cell]; rfl
  by_cases hx0 : x.k.size = 0
  ·have hxe : x.k.toList.isEmpty = true := by
    rw [List.isEmpty_iff, ByteArray.toList_eq]
    exact List.eq_nil_of_length_eq_zero (by rw [Array.length_toList]; exact hx0)
   refine wp_seq ?_
   refine wp_seq ?_
   refine fl2 (F := [(3, _), (5, _), (6, _), (11, _), (12, _), (13, _)]) [.eq 23 _, .eq 24 _, .eq 25 (.bool true), .eq 26 (.bool true), .eq 27 _, .eq 28 _, .eq 29 _] 7 hs hd ⟨s3, s5, s6, s11, s12, s13, trivial⟩
    ⟨(stp rfl fun a u hb hs hl hd K hK => by have s5 := gL hl 1; clear hd; go_simp; exact kE hK hs),
     (stp rfl fun a u hb hs hl hd K hK => by have s23 := gD hd 0; have c1 := cell_up hb c1; clear hd; go_simp; exact kE hK hs),
     (stp rfl fun a u hb hs hl hd K hK => by have s24 := gD hd 1; clear hd; go_simp; exact kE hK hs),
     (stp rfl fun a u hb hs hl hd K hK => by have s25 := gD hd 2; clear hd; go_simp; exact kE hK hs),
     (fun a u hb hs hl hd K hK => by have s3 := gL hl 0; have g26 := vD hd 3; clear hd; refine step_no rfl (j := 3) (d := 26) rfl rfl g26 (by decide) ?_; exact kE hK hs),
     (fun a u hb hs hl hd K hK => by have s5 := gL hl 1; have s6 := gL hl 2; have g26 := vD hd 3; clear hd; refine step_no rfl (j := 3) (d := 26) rfl rfl g26 (by decide) ?_; exact kE hK hs),
     (fun a u hb hs hl hd K hK => by have s27 := gD hd 4; have s28 := gD hd 5; have g26 := vD hd 3; clear hd; refine step_no rfl (j := 3) (d := 26) rfl rfl g26 (by decide) ?_; exact kE hK hs),
     trivial⟩ ?_
   clear hs hd s3 s5 s6 s11 s12 s13
   intro a w hb hs hd zl hh
   replace zl := lH hh 3 zl
   replace zl := lH hh 6 zl
   clear hh
   replace hown := hown.after hb
   replace hg5 := hg5.after hb
   replace hg6 := hg6.after hb
   replace c1 := cell_up hb c1
   replace hB := bz_then hB hb
   clear hb
   show wpList _ _ _ [_] _ _
   refine tail_op rfl (fun K hK => ?_)
   have q26 := gL zl 1
   have q29 := gL zl 0
   go_simp
   clear q26 q29
   refine hK _ _ (tP hs hd zl ?_)
   clear hK K hs hd zl
   intro a hs hd zl
   clear c1
   refine wp_cond_true (vL zl 0) ?_
   refine wp_exit ?_
   repeat refine then_exit ?_
   refine inBlock_exit ?_
   refine wp_region_list ?_
   show wpList _ _ _ [_, _] _ _
   refine tail_op rfl (fun K hK => ?_)
   have q13 := gL zl 8
   go_simp
   clear q13
   refine hK _ _ (tP hs hd zl ?_)
   clear hK K hs hd zl
   intro a hs hd zl
   refine tail_op rfl (fun K hK => ?_)
   have q42 := gL zl 0
   go_simp
   clear q42
   refine hK _ _ ?_
   clear hK K
   obtain ⟨s42, s30, -, -, s3, s5, s6, s11, s12, s13, -⟩ := zl
   refine act_put (d := 13) _ hs hd (by decide) [(3, _), (5, _), (6, _), (11, _), (12, _), (30, _), (42, _)] ⟨s3, s5, s6, s11, s12, s30, s42, trivial⟩ rfl ?_
   clear hs hd s3 s5 s6 s11 s12 s13 s30 s42
   intro a hs hd zl
   obtain ⟨s13, s3, -, -, s11, s12, -, -, -⟩ := zl
   refine ⟨⟨k + 1, S, _, _, hs, hd, ⟨s3, s11, s12, s13, trivial⟩, hlt, hB, hown, hgd, hnd, Nat.le_succ_of_le hSk, hnl⟩, ?_⟩
   rw [s13]
   simp [intOf]
   omega
  have hxe : x.k.toList.isEmpty = false := by
   rw [← Bool.not_eq_true, List.isEmpty_iff]
   intro e
   rw [ByteArray.toList_eq] at e
   apply hx0
   show x.k.data.size = 0
   rw [← Array.length_toList, e]
   rfl
  clear hx0
  obtain ⟨pb, hpb⟩ : ∃ b, S.any (sameB x ad) = b := ⟨_, rfl⟩
  have hS20 : S.length ≤ 1000 := by omega
  cases pb
  ·clear e1 e2
   refine wp_seq ?_
   refine wp_seq ?_
   refine fl2 (F := [(3, _), (5, _), (6, _), (11, _), (12, _), (13, _)]) [.eq 23 _, .eq 24 _, .eq 25 (.bool false), .eq 26 (.bool false), .eq 27 _, .eq 28 _, .eq 29 _] 7 hs hd ⟨s3, s5, s6, s11, s12, s13, trivial⟩
    ⟨(stp rfl fun a u hb hs hl hd K hK => by have s5 := gL hl 1; clear hd; go_simp; exact kE hK hs),
     (stp rfl fun a u hb hs hl hd K hK => by have s23 := gD hd 0; have c1 := cell_up hb c1; clear hd; go_simp; exact kE hK hs),
     (stp rfl fun a u hb hs hl hd K hK => by have s24 := gD hd 1; clear hd; go_simp; exact kE hK hs),
     (stp rfl fun a u hb hs hl hd K hK => by have s25 := gD hd 2; clear hd; go_simp; exact kE hK hs),
     (fun a u hb hs hl hd K hK => by have s3 := gL hl 0; have g26 := vD hd 3; clear hd; refine step_yes rfl (j := 3) (d := 26) rfl rfl g26 ?_; go_simp; exact kE hK hs),
     (fun a u hb hs hl hd K hK => by have s5 := gL hl 1; have s6 := gL hl 2; have g26 := vD hd 3; clear hd; refine step_yes rfl (j := 3) (d := 26) rfl rfl g26 ?_; go_simp; exact kE hK hs),
     (fun a u hb hs hl hd K hK => by
      have s27 := gD hd 4
      have s28 := gD hd 5
      have c1 := cell_up hb c1
      have g26 := vD hd 3
      clear hd
      refine step_yes rfl (j := 3) (d := 26) rfl rfl g26 ?_
      go_simp
      refine (c_ContainsSet S A c' x ad g5 g6 _ u (hown.after hb).rows (hg5.after hb) (hg6.after hb) (by omega)).mono ?_
      rintro e w5 ⟨rfl, hb2⟩
      rw [hpb]
      exact hK _ _ hb2 (eq_put hs (by decide))),
     trivial⟩ ?_
   clear hs hd s3 s5 s6 s11 s12 s13
   intro a w hb hs hd zl hh
   replace zl := lH hh 3 zl
   replace zl := lH hh 6 zl
   clear hh
   replace hown := hown.after hb
   replace hg5 := hg5.after hb
   replace hg6 := hg6.after hb
   replace c1 := cell_up hb c1
   replace hB := bz_then hB hb
   clear hb
   show wpList _ _ _ [_] _ _
   refine tail_op rfl (fun K hK => ?_)
   have q26 := gL zl 1
   have q29 := gL zl 0
   go_simp
   clear q26 q29
   refine hK _ _ (tP hs hd zl ?_)
   clear hK K hs hd zl
   intro a hs hd zl
   clear c1
   refine wp_cond_false (vL zl 0) ?_
   refine wp_skip ?_
   obtain ⟨y, hy⟩ : ∃ y : Seat, Is ⟨ad, x.k, 1 + bel x.p 1000000, 0⟩ y := is_self _
   have hbr := bel_range x.p 1000000 (by decide)
   obtain ⟨bp, hbp⟩ : ∃ n, Is (bel x.p 1000000) n := is_self _
   rw [hbp.out] at hbr
   have hyc : y.cells = [.string ad, .string x.k, .int .i64 (1 + bp), .int .i64 0] := by rw [← hy.out, ← hbp.out]; rfl
   have ea : IntKind.i64.wrap (1 + bp) = 1 + bp := IntWalk.i64_in _ (by omega)
   have c0 : w.cell? ⟨g6, 0, none⟩ = some (.string ad) := by rw [hg6.cell]; rfl
   have c1 : w.cell? ⟨g5, 1, none⟩ = some (.string x.k) := by rw [hg5.cell]; rfl
   have c2 : w.cell? ⟨g5, 2, none⟩ = some (.int .i64 x.p) := by rw [hg5.cell]; rfl
   have hYG := Is.hid hyc
   clear hyc
   obtain ⟨s30, -, -, s3, s5, s6, s11, s12, s13, -⟩ := zl
   refine fl2 (F := [(3, _), (5, _), (6, _), (11, _), (12, _), (13, _), (30, _)]) [.eq 31 _, .eq 32 _, .eq 33 _, .eq 34 _, .eq 35 _, .eq 36 _, .eq 37 _, .eq 38 _, .eq 39 (.agg #[.string ad, .string x.k, .int .i64 (1 + bp), .int .i64 0]), FItem.row 40 50 [.string ad, .string x.k, .int .i64 (1 + bp), .int .i64 0]] 10 hs hd ⟨s3, s5, s6, s11, s12, s13, s30, trivial⟩
    ⟨(stp rfl fun a u hb hs hl hd K hK => by have s3 := gL hl 0; clear hd; go_simp; exact kE hK hs),
     (stp rfl fun a u hb hs hl hd K hK => by have s6 := gL hl 2; have c0 := cell_up hb c0; have c1 := cell_up hb c1; have c2 := cell_up hb c2; clear hd; go_simp; exact kE hK hs),
     (stp rfl fun a u hb hs hl hd K hK => by have s5 := gL hl 1; clear hd; go_simp; exact kE hK hs),
     (stp rfl fun a u hb hs hl hd K hK => by have s33 := gD hd 2; have c0 := cell_up hb c0; have c1 := cell_up hb c1; have c2 := cell_up hb c2; clear hd; go_simp; exact kE hK hs),
     (stp rfl fun a u hb hs hl hd K hK => by have s5 := gL hl 1; clear hd; go_simp; exact kE hK hs),
     (stp rfl fun a u hb hs hl hd K hK => by have s35 := gD hd 4; have c0 := cell_up hb c0; have c1 := cell_up hb c1; have c2 := cell_up hb c2; clear hd; go_simp; exact kE hK hs),
     (stp rfl fun a u hb hs hl hd K hK => by
      have s36 := gD hd 5
      have c0 := cell_up hb c0
      have c1 := cell_up hb c1
      have c2 := cell_up hb c2
      clear hd
      go_simp
      refine (c_below x.p 1000000 _ (by omega) (by decide)).mono ?_
      rintro e w5 ⟨rfl, hw5⟩
      obtain rfl := hw5
      rw [hbp.out]
      exact kE hK hs),
     (stp rfl fun a u hb hs hl hd K hK => by have s37 := gD hd 6; clear hd; go_simp; exact kE hK hs),
     (stp rfl fun a u hb hs hl hd K hK => by have s32 := gD hd 1; have s34 := gD hd 3; have s38 := gD hd 7; clear hd; go_simp; exact kE hK hs),
     (stp rfl fun a u hb hs hl hd K hK => by
      have s39 := gD hd 8
      have c0 := cell_up hb c0
      have c1 := cell_up hb c1
      have c2 := cell_up hb c2
      clear hd
      go_simp
      exact hK _ _ (bz_alloc (bz_refl _) _) (row_put hs (by decide) (RowAt1.new _ _ [.string ad, .string x.k, .int .i64 (1 + bp), .int .i64 0]))),
     trivial⟩ ?_
   clear hs hd s3 s5 s6 s11 s12 s13 s30
   intro a w hb hs hd zl hh
   replace zl := lH hh 0 zl
   have i40 := FItem.row_holds.1 (hold_get hh 9)
   obtain ⟨v40, s40⟩ : ∃ v, a.tmps.getD 40 undef = v := ⟨_, rfl⟩
   rw [s40] at i40
   clear hh
   replace hown := hown.after hb
   replace c0 := cell_up hb c0
   replace c1 := cell_up hb c1
   replace c2 := cell_up hb c2
   replace hB := bz_then hB hb
   clear hb
   show wpList _ _ _ [_, _] _ _
   refine tail_op rfl (fun K hK => ?_)
   have q31 := gL zl 0
   have q40 := gd s40
   obtain ⟨g7, c7, rfl, hg7⟩ := i40
   have s31 := vL zl 0
   refine op_app_row (.tmp 31) (.tmp 40) rfl Tryd.underlying25 seat_info rfl (by decide) (R := seatRows S) (r := [.string ad, .string x.k, .int .i64 (1 + bp), .int .i64 0]) (by rw [seatRows_length]; exact s31) s40 hown hg7 rfl (by rw [← hYG.out]; exact seat_one y) (by rw [seatRows_length]; omega) (by decide) hB.size ?_
   intro A' c'' w5 hown' hbel _ _
   rw [← hYG.out] at hown' ⊢
   have hlen' : (seatRows S ++ [y.cells]).length = (S ++ [y]).length := by rw [List.length_append, List.length_append, seatRows_length]; rfl
   rw [hlen']
   obtain ⟨S2, hS2⟩ : ∃ S2, Is (S ++ [y]) S2 := is_self _
   rw [hS2.out]
   have hrows : seatRows S2 = seatRows S ++ [y.cells] := by rw [← hS2.out]; unfold seatRows; rw [List.map_append]; rfl
   rw [← hrows] at hown'
   clear hlen' hrows hown hg7
   clear q31 q40
   refine hK _ _ ?_
   clear hK K
   clear s31
   obtain ⟨s31, s3, -, -, s11, s12, s13, -, -⟩ := zl
   refine act_put (d := 41) _ hs hd (by decide) [(3, _), (11, _), (12, _), (13, _), (31, _), (40, _)] ⟨s3, s11, s12, s13, s31, s40, trivial⟩ rfl ?_
   clear hs hd s3 s11 s12 s13 s31 s40
   intro a hs hd zl
   replace hB := hB.trans hbel
   clear hbel
   refine tail_op rfl (fun K hK => ?_)
   have q41 := gL zl 0
   go_simp
   clear q41
   refine hK _ _ ?_
   clear hK K
   obtain ⟨s41, s3, s11, s12, s13, s31, s40, -⟩ := zl
   refine act_put (d := 3) _ hs hd (by decide) [(11, _), (12, _), (13, _), (31, _), (40, _), (41, _)] ⟨s11, s12, s13, s31, s40, s41, trivial⟩ rfl ?_
   clear hs hd s3 s11 s12 s13 s31 s40 s41
   intro a hs hd zl
   have hya : y.a = ad := by rw [← hy.out]
   have hyg : y.good := by
    rw [← hy.out, hbp.out]
    exact ⟨hads, hxk1, ⟨show 1 ≤ 1 + bp by omega, show 1 + bp ≤ 1000000 by omega⟩, rfl⟩
   have hgd' : Good S2 := by
    rw [← hS2.out]
    intro s hs'
    rcases List.mem_append.1 hs' with h | h
    ·exact hgd s h
    ·rw [List.mem_singleton.1 h]; exact hyg
   have hnd' : (S2.map Seat.a).Nodup := by
    rw [← hS2.out, List.map_append, List.nodup_append]
    refine ⟨hnd, List.nodup_cons.2 ⟨by simp, List.nodup_nil⟩, ?_⟩
    intro a1 h1 a2 h2 he
    obtain ⟨s, hs', rfl⟩ := List.mem_map.1 h1
    have h3 : a2 = ad := by simpa [hya] using h2
    have h4 := List.any_eq_false.1 hpb s hs'
    apply h4
    unfold sameB
    rw [Bool.or_eq_true]
    exact .inr ((eqB_iff _ _).2 (he.trans h3))
   have hSk' : S2.length ≤ k + 1 := by rw [← hS2.out, List.length_append]; exact Nat.succ_le_succ hSk
   refine wp_region_list ?_
   show wpList _ _ _ [_, _] _ _
   refine tail_op rfl (fun K hK => ?_)
   have q13 := gL zl 3
   go_simp
   clear q13
   refine hK _ _ (tP hs hd zl ?_)
   clear hK K hs hd zl
   intro a hs hd zl
   refine tail_op rfl (fun K hK => ?_)
   have q42 := gL zl 0
   go_simp
   clear q42
   refine hK _ _ ?_
   clear hK K
   obtain ⟨s42, s3, s11, s12, s13, -, -, -, -⟩ := zl
   refine act_put (d := 13) _ hs hd (by decide) [(3, _), (11, _), (12, _), (42, _)] ⟨s3, s11, s12, s42, trivial⟩ rfl ?_
   clear hs hd s3 s11 s12 s13 s42
   intro a hs hd zl
   obtain ⟨s13, s3, s11, s12, -, -⟩ := zl
   refine ⟨⟨k + 1, S2, _, _, hs, hd, ⟨s3, s11, s12, s13, trivial⟩, hlt, hB, hown', hgd', hnd', hSk', (fun h => by rw [← hS2.out] at h; simp at h)⟩, ?_⟩
   rw [s13]
   simp [intOf]
   omega
  refine wp_seq ?_
  refine wp_seq ?_
  refine fl2 (F := [(3, _), (5, _), (6, _), (11, _), (12, _), (13, _)]) [.eq 23 _, .eq 24 _, .eq 25 (.bool false), .eq 26 (.bool false), .eq 27 _, .eq 28 _, .eq 29 _] 7 hs hd ⟨s3, s5, s6, s11, s12, s13, trivial⟩
   ⟨(stp rfl fun a u hb hs hl hd K hK => by have s5 := gL hl 1; clear hd; go_simp; exact kE hK hs),
    (stp rfl fun a u hb hs hl hd K hK => by have s23 := gD hd 0; have c1 := cell_up hb c1; clear hd; go_simp; exact kE hK hs),
    (stp rfl fun a u hb hs hl hd K hK => by have s24 := gD hd 1; clear hd; go_simp; exact kE hK hs),
    (stp rfl fun a u hb hs hl hd K hK => by have s25 := gD hd 2; clear hd; go_simp; exact kE hK hs),
    (fun a u hb hs hl hd K hK => by have s3 := gL hl 0; have g26 := vD hd 3; clear hd; refine step_yes rfl (j := 3) (d := 26) rfl rfl g26 ?_; go_simp; exact kE hK hs),
    (fun a u hb hs hl hd K hK => by have s5 := gL hl 1; have s6 := gL hl 2; have g26 := vD hd 3; clear hd; refine step_yes rfl (j := 3) (d := 26) rfl rfl g26 ?_; go_simp; exact kE hK hs),
    (fun a u hb hs hl hd K hK => by
     have s27 := gD hd 4
     have s28 := gD hd 5
     have c1 := cell_up hb c1
     have g26 := vD hd 3
     clear hd
     refine step_yes rfl (j := 3) (d := 26) rfl rfl g26 ?_
     go_simp
     refine (c_ContainsSet S A c' x ad g5 g6 _ u (hown.after hb).rows (hg5.after hb) (hg6.after hb) (by omega)).mono ?_
     rintro e w5 ⟨rfl, hb2⟩
     rw [hpb]
     exact hK _ _ hb2 (eq_put hs (by decide))),
    trivial⟩ ?_
  clear hs hd s3 s5 s6 s11 s12 s13
  intro a w hb hs hd zl hh
  replace zl := lH hh 3 zl
  replace zl := lH hh 6 zl
  clear hh
  replace hown := hown.after hb
  replace hg5 := hg5.after hb
  replace hg6 := hg6.after hb
  replace c1 := cell_up hb c1
  replace hB := bz_then hB hb
  clear hb
  show wpList _ _ _ [_] _ _
  refine tail_op rfl (fun K hK => ?_)
  have q26 := gL zl 1
  have q29 := gL zl 0
  go_simp
  clear q26 q29
  refine hK _ _ (tP hs hd zl ?_)
  clear hK K hs hd zl
  intro a hs hd zl
  clear c1
  refine wp_cond_true (vL zl 0) ?_
  refine wp_exit ?_
  repeat refine then_exit ?_
  refine inBlock_exit ?_
  refine wp_region_list ?_
  show wpList _ _ _ [_, _] _ _
  refine tail_op rfl (fun K hK => ?_)
  have q13 := gL zl 8
  go_simp
  clear q13
  refine hK _ _ (tP hs hd zl ?_)
  clear hK K hs hd zl
  intro a hs hd zl
  refine tail_op rfl (fun K hK => ?_)
  have q42 := gL zl 0
  go_simp
  clear q42
  refine hK _ _ ?_
  clear hK K
  obtain ⟨s42, s30, -, -, s3, s5, s6, s11, s12, s13, -⟩ := zl
  refine act_put (d := 13) _ hs hd (by decide) [(3, _), (5, _), (6, _), (11, _), (12, _), (30, _), (42, _)] ⟨s3, s5, s6, s11, s12, s30, s42, trivial⟩ rfl ?_
  clear hs hd s3 s5 s6 s11 s12 s13 s30 s42
  intro a hs hd zl
  obtain ⟨s13, s3, -, -, s11, s12, -, -, -⟩ := zl
  refine ⟨⟨k + 1, S, _, _, hs, hd, ⟨s3, s11, s12, s13, trivial⟩, hlt, hB, hown, hgd, hnd, Nat.le_succ_of_le hSk, hnl⟩, ?_⟩
  rw [s13]
  simp [intOf]
  omega
 have e1 : decide (k < m) = false := decide_eq_false hlt
 have e2 : decide ((k : Int) < (m : Int)) = false := decide_eq_false (by omega)
 refine wp_seq ?_
 refine wp_region_list ?_
 show wpList _ _ _ [_] _ _
 refine tail_op rfl (fun K hK => ?_)
 have q12 := gd s12
 have q13 := gd s13
 go_simp
 clear q12 q13
 refine hK _ _ ?_
 clear hK K
 refine act_put (d := 14) _ hs hd (by decide) [(3, _), (11, _), (12, _), (13, _)] ⟨s3, s11, s12, s13, trivial⟩ rfl ?_
 clear hs hd s3 s11 s12 s13
 intro a hs hd zl
 refine wp_seq ?_
 refine wp_cond_false (vL zl 0) ?_
 refine wp_exit ?_
 repeat refine then_exit ?_
 refine inBlock_exit ?_
 refine wp_seq ?_
 have hok : SetOk S := ⟨hgd, hnd, by omega⟩
 have hnil := hnl
 refine wp_region_list ?_
 show wpList _ _ _ [_, _, _] _ _
 refine tail_op rfl (fun K hK => ?_)
 have q3 := gL zl 1
 go_simp
 clear q3
 refine hK _ _ (tP hs hd zl ?_)
 clear hK K hs hd zl
 intro a hs hd zl
 refine tail_op rfl (fun K hK => ?_)
 have q43 := gL zl 0
 go_simp
 refine (c_Ranked S A c' _ hown.rows hnil hok.le).mono ?_
 rintro e w3 ⟨S', A', c'', rfl, hp, hown', hb2⟩
 clear q43
 refine hK _ _ (tP hs hd zl ?_)
 clear hK K hs hd zl
 intro a hs hd zl
 replace hB := bz_then hB hb2
 clear hb2
 refine tail_op rfl (fun K hK => ?_)
 have q44 := gL zl 0
 go_simp
 clear q44
 refine hK _ _ (tP hs hd zl ?_)
 clear hK K hs hd zl
 intro a hs hd zl
 refine wp_ret ?_
 exact end_tmp rfl hd (vL zl 0) ⟨S', A', c'', rfl, hok.perm hp, hown'.rows, hown'.fm_ (seatRows_length _), (by have := hown'.cap; rw [seatRows_length] at this; exact this), hB⟩
end Go.Proofs.YtcmllcmcbamlbaaDoor
namespace Go.Proofs.YtcmllcmcbamlbaaDoor
open Go.RowKit
/-- A header of 'headed'. -/
def mkH (ch : ByteArray) (ht sec ns : Int) (bh bp : HSl) (hh : Nat → HSl) (pr : ByteArray) : Hd := ⟨11, 0, ch, ht, sec, ns, bh, 1, bp, hh, pr⟩
def updH (hh : Nat → HSl) (k : Nat) (s : HSl) : Nat → HSl := fun i => if i = k then s else hh i
theorem updH_at (hh : Nat → HSl) (k : Nat) (s : HSl) : updH hh k s k = s := if_pos rfl
theorem updH_ne (hh : Nat → HSl) {k i : Nat} (s : HSl) (h : i ≠ k) : updH hh k s i = hh i := if_neg h
theorem mkH_set (ch : ByteArray) (ht sec ns : Int) (bh bp : HSl) (hh : Nat → HSl) (pr : ByteArray) (k : Nat) (hk : k < 8) (s : HSl) :
  (mkH ch ht sec ns bh bp hh pr).cells.setIfInBounds (9 + k) s.v = (mkH ch ht sec ns bh bp (updH hh k s) pr).cells := by
 rcases (by omega : k = 0 ∨ k = 1 ∨ k = 2 ∨ k = 3 ∨ k = 4 ∨ k = 5 ∨ k = 6 ∨ k = 7) with rfl | rfl | rfl | rfl | rfl | rfl | rfl | rfl <;> rfl
theorem mkH_cell (ch : ByteArray) (ht sec ns : Int) (bh bp : HSl) (hh : Nat → HSl) (pr : ByteArray) (k : Nat) (hk : k < 8) : (mkH ch ht sec ns bh bp hh pr).cells[9 + k]? = some (hh k).v := by
 rcases (by omega : k = 0 ∨ k = 1 ∨ k = 2 ∨ k = 3 ∨ k = 4 ∨ k = 5 ∨ k = 6 ∨ k = 7) with rfl | rfl | rfl | rfl | rfl | rfl | rfl | rfl <;> rfl
/-- A sum: where it lies; not in the blocks z, g. -/
structure HSl.far (s : HSl) (w : World) (z g : Nat) : Prop where
 ok : s.ok w
 ne : ∀ k, blkOf s.A = some k → k ≠ z ∧ k ≠ g
theorem HSl.far.after {s : HSl} {w w' : World} {z g : Nat} (h : s.far w z g) (hb : Below w.heap.size w w') : s.far w' z g := ⟨h.ok.after hb, h.ne⟩
theorem HSl.ok.gb {s : HSl} {w w' : World} {g : Nat} (h : s.ok w) (hg : w.grownBy w' (some g)) (hn : ∀ k, blkOf s.A = some k → k ≠ g) : s.ok w' :=
 ⟨h.bs.grown hg (fun _ e => by
  cases hA : blkOf s.A with
  | none => rw [hA] at e; cases e
  | some k => rw [hA] at e; injection e with e; exact hn k hA e), h.fm, h.cap, h.b8, h.len, fun k hk => Nat.lt_of_lt_of_le (h.blk k hk) hg.size⟩
theorem HSl.far.gbz {s : HSl} {w w' : World} {z g : Nat} (h : s.far w z g) (hg : w.grownBy w' (some z)) : s.far w' z g := ⟨h.ok.gb hg fun k hk => (h.ne k hk).1, h.ne⟩
theorem HSl.far.gbg {s : HSl} {w w' : World} {z g : Nat} (h : s.far w z g) (hg : w.grownBy w' (some g)) : s.far w' z g := ⟨h.ok.gb hg fun k hk => (h.ne k hk).2, h.ne⟩
theorem HSl.nil_far (w : World) (z g : Nat) : HSl.nil.far w z g := ⟨HSl.nil_ok w, fun k hk => by cases hk⟩
/-- Bytes of a younger block. -/
theorem BsAt.far {B z g : Nat} {l : List Int} {v : Value} {w : World} (h : BsAt B l v w) (h8 : Bytes l) (hn : l.length ≤ 1000000000) (hz : z < B) (hg : g < B) : ∃ s : HSl, v = s.v ∧ s.far w z g ∧ Is s.l l := by
 obtain ⟨l', A, c, h1, h2, h3, h4, h5, h6⟩ := h
 have e : l' = l := h1
 subst e
 exact ⟨⟨A, c, l'⟩, h2, ⟨⟨h5, h3, h4, h8, hn, fun k hk => (h6 k hk).2⟩, fun k hk => ⟨by have := (h6 k hk).1; omega, by have := (h6 k hk).1; omega⟩⟩, rfl⟩
/-- Bytes that are there, of a block behind z: apart from z, and from the next block. -/
theorem BsAt.far2 {B z : Nat} {l : List Int} {v : Value} {w : World} (h : BsAt B l v w) (h8 : Bytes l) (hn : l.length ≤ 1000000000) (hz : z < B) : ∃ s : HSl, v = s.v ∧ s.far w z w.heap.size ∧ Is s.l l := by
 obtain ⟨l', A, c, h1, h2, h3, h4, h5, h6⟩ := h
 have e : l' = l := h1
 subst e
 exact ⟨⟨A, c, l'⟩, h2, ⟨⟨h5, h3, h4, h8, hn, fun k hk => (h6 k hk).2⟩, fun k hk => ⟨by have := (h6 k hk).1; omega, by have := (h6 k hk).2; omega⟩⟩, rfl⟩
theorem BsAt.sl2 {B : Nat} {l : List Int} {v : Value} {w : World} (h : BsAt B l v w) (h8 : Bytes l) (hn : l.length ≤ 1000000000) : ∃ s : HSl, v = s.v ∧ s.ok w ∧ Is s.l l ∧ ∀ k, blkOf s.A = some k → B ≤ k := by
 obtain ⟨l', A, c, h1, h2, h3, h4, h5, h6⟩ := h
 have e : l' = l := h1
 subst e
 exact ⟨⟨A, c, l'⟩, h2, ⟨h5, h3, h4, h8, hn, fun k hk => (h6 k hk).2⟩, rfl, fun k hk => (h6 k hk).1⟩
/-- What a header's sums are while they are laid. -/
def Sums (hh : Nat → HSl) (w : World) (z g : Nat) : Prop := ∀ i, (hh i).far w z g
theorem Sums.after {hh : Nat → HSl} {w w' : World} {z g : Nat} (h : Sums hh w z g) (hb : Below w.heap.size w w') : Sums hh w' z g := fun i => (h i).after hb
theorem Sums.upd {hh : Nat → HSl} {w w' : World} {z g k : Nat} {s : HSl} (h : Sums hh w z g) (hs : s.far w z g) (hg : w.grownBy w' (some g)) : Sums (updH hh k s) w' z g := fun i => by
 by_cases e : i = k
 ·subst e; rw [updH_at]; exact hs.gbg hg
 ·rw [updH_ne _ _ e]; exact (h i).gbg hg
/-- A slot that holds a block's name: of two sums of blocks from B on. -/
def BidAt (B : Nat) (l k : List Int) (v : Value) (w : World) : Prop := ∃ A c A' c' x y, v = .agg #[.slice A x c, .int .i64 1, .slice A' y c'] ∧ BsAt B l (.slice A x c) w ∧ BsAt B k (.slice A' y c') w
theorem BidAt.after {B : Nat} {l k : List Int} {v : Value} {w w' : World} (h : BidAt B l k v w) (hb : Below w.heap.size w w') : BidAt B l k v w' := by
 obtain ⟨A, c, A', c', x, y, h1, h2, h3⟩ := h
 exact ⟨A, c, A', c', x, y, h1, h2.after hb, h3.after hb⟩
def FItem.bid (t B : Nat) (l k : List Int) : FItem := { reads := [t], fact := fun vs w => ∃ v, vs = [v] ∧ BidAt B l k v w, keeps := fun _ _ _ hb ⟨v, h1, h2⟩ => ⟨v, h1, h2.after hb⟩ }
theorem FItem.bid_holds {t B : Nat} {l k : List Int} {a : Act} {w : World} : (FItem.bid t B l k).holds a w ↔ BidAt B l k (a.tmps.getD t undef) w := by
 constructor
 ·rintro ⟨v, h1, h2⟩
  injection h1 with h1
  have h1 : a.tmps.getD t undef = v := h1
  rwa [h1]
 ·exact fun h => ⟨_, rfl, h⟩
theorem bid_put {a : Act} {d B : Nat} {l k : List Int} {v : Value} {w : World} {sz : Nat} (hs : SzIs a sz) (hd : d < sz) (h : BidAt B l k v w) : (FItem.bid d B l k).holds (a.put (some d) v) w := FItem.bid_holds.2 (by rw [put_self a d v (by rw [hs.out]; exact hd)]; exact h)
theorem not_u8 {w : World} {g : Nat} {T : TypeId} {cs : Array Value} {s : HSl} (hs : s.ok w) (hn : 0 < s.l.length) (hg : Blk w g T cs) (hc : ∀ (i : Nat) (x : Int), cs[i]? ≠ some (Value.int .u8 x)) : ∀ k, blkOf s.A = some k → k ≠ g := by
 intro k hk e
 subst e
 obtain ⟨b, o, hA, _, h⟩ := hs.bs 0 hn
 rw [hA] at hk
 injection hk with hk
 have hk : b = k := hk
 subst hk
 rw [hg.cell] at h
 exact hc _ _ h
theorem z_not_u8 : ∀ (i : Nat) (x : Int), (#[.int .i64 0, .int .i64 0, .string ⟨#[]⟩, .int .i64 0, .int .i64 0, .int .i64 0, .slice none 0 0, .int .i64 0, .slice none 0 0, .slice none 0 0, .slice none 0 0, .slice none 0 0, .slice none 0 0, .slice none 0 0, .slice none 0 0, .slice none 0 0, .slice none 0 0, .string ⟨#[]⟩] : Array Value)[i]? ≠ some (Value.int .u8 x) := by
 intro i x h
 rcases (by omega : i = 0 ∨ i = 1 ∨ i = 2 ∨ i = 3 ∨ i = 4 ∨ i = 5 ∨ i = 6 ∨ i = 7 ∨ i = 8 ∨ i = 9 ∨ i = 10 ∨ i = 11 ∨ i = 12 ∨ i = 13 ∨ i = 14 ∨ i = 15 ∨ i = 16 ∨ i = 17 ∨ 18 ≤ i) with rfl | rfl | rfl | rfl | rfl | rfl | rfl | rfl | rfl | rfl | rfl | rfl | rfl | rfl | rfl | rfl | rfl | rfl | hi
 all_goals first | (simp at h; done) | (rw [Array.getElem?_eq_none (by simpa using hi)] at h; cases h)
/-- A slot that holds a header with no sums yet. -/
def Hd0At (B : Nat) (ch : ByteArray) (ht sec ns : Int) (pr : ByteArray) (l k : List Int) (v : Value) (w : World) : Prop :=
 ∃ bh bp, v = .agg (mkH ch ht sec ns bh bp (fun _ => HSl.nil) pr).cells ∧ bh.ok w ∧ bp.ok w ∧ Is bh.l l ∧ Is bp.l k ∧ (∀ k, blkOf bh.A = some k → B ≤ k) ∧ ∀ k, blkOf bp.A = some k → B ≤ k
theorem Hd0At.after {B : Nat} {ch : ByteArray} {ht sec ns : Int} {pr : ByteArray} {l k : List Int} {v : Value} {w w' : World} (h : Hd0At B ch ht sec ns pr l k v w) (hb : Below w.heap.size w w') : Hd0At B ch ht sec ns pr l k v w' := by
 obtain ⟨bh, bp, h1, h2, h3, h4⟩ := h
 exact ⟨bh, bp, h1, h2.after hb, h3.after hb, h4⟩
def FItem.h0 (t B : Nat) (ch : ByteArray) (ht sec ns : Int) (pr : ByteArray) (l k : List Int) : FItem := { reads := [t], fact := fun vs w => ∃ v, vs = [v] ∧ Hd0At B ch ht sec ns pr l k v w, keeps := fun _ _ _ hb ⟨v, h1, h2⟩ => ⟨v, h1, h2.after hb⟩ }
theorem FItem.h0_holds {t B : Nat} {ch : ByteArray} {ht sec ns : Int} {pr : ByteArray} {l k : List Int} {a : Act} {w : World} : (FItem.h0 t B ch ht sec ns pr l k).holds a w ↔ Hd0At B ch ht sec ns pr l k (a.tmps.getD t undef) w := by
 constructor
 ·rintro ⟨v, h1, h2⟩
  injection h1 with h1
  have h1 : a.tmps.getD t undef = v := h1
  rwa [h1]
 ·exact fun h => ⟨_, rfl, h⟩
theorem h0_put {a : Act} {d B : Nat} {ch : ByteArray} {ht sec ns : Int} {pr : ByteArray} {l k : List Int} {v : Value} {w : World} {sz : Nat} (hs : SzIs a sz) (hd : d < sz) (h : Hd0At B ch ht sec ns pr l k v w) : (FItem.h0 d B ch ht sec ns pr l k).holds (a.put (some d) v) w := FItem.h0_holds.2 (by rw [put_self a d v (by rw [hs.out]; exact hd)]; exact h)
/-- A slot that holds a pointer to a block from B on. -/
def PtrB (B : Nat) (T : TypeId) (cs : Array Value) (v : Value) (w : World) : Prop := ∃ g, v = .pointer (some ⟨g, 0, none⟩) ∧ Blk w g T cs ∧ B ≤ g
theorem PtrB.after {B : Nat} {T : TypeId} {cs : Array Value} {v : Value} {w w' : World} (h : PtrB B T cs v w) (hb : Below w.heap.size w w') : PtrB B T cs v w' := by
 obtain ⟨g, h1, h2, h3⟩ := h
 exact ⟨g, h1, h2.after hb, h3⟩
def FItem.pb (t B : Nat) (T : TypeId) (cs : Array Value) : FItem := { reads := [t], fact := fun vs w => ∃ v, vs = [v] ∧ PtrB B T cs v w, keeps := fun _ _ _ hb ⟨v, h1, h2⟩ => ⟨v, h1, h2.after hb⟩ }
theorem FItem.pb_holds {t B : Nat} {T : TypeId} {cs : Array Value} {a : Act} {w : World} : (FItem.pb t B T cs).holds a w ↔ PtrB B T cs (a.tmps.getD t undef) w := by
 constructor
 ·rintro ⟨v, h1, h2⟩
  injection h1 with h1
  have h1 : a.tmps.getD t undef = v := h1
  rwa [h1]
 ·exact fun h => ⟨_, rfl, h⟩
theorem pb_put {a : Act} {d B : Nat} {T : TypeId} {cs : Array Value} {v : Value} {w : World} {sz : Nat} (hs : SzIs a sz) (hd : d < sz) (h : PtrB B T cs v w) : (FItem.pb d B T cs).holds (a.put (some d) v) w := FItem.pb_holds.2 (by rw [put_self a d v (by rw [hs.out]; exact hd)]; exact h)
/-- What 'headed' hands back. -/
def Headed (ch : ByteArray) (ht sec ns : Int) (X Y : List Seat) (pr : ByteArray) (salt : List Int) (H : Hd) : Prop :=
 ∃ bh bp hh, H = mkH ch ht sec ns bh bp hh pr ∧ bh.l = sha salt ∧ bp.l = sha salt ∧ (hh 2).l = rootN 20 (sLeaves X) ∧ (hh 3).l = rootN 20 (sLeaves Y) ∧ (hh 5).l = sha salt ∧ ∀ i, i < 8 → (hh i).l.length = 32

set_option maxHeartbeats 4000000 in
set_option maxRecDepth 100000 in
theorem c_headed (ch : ByteArray) (ht sec ns : Int) (X Y : List Seat) (A A' A2 : Option Addr) (c c' c2 : Nat) (salt : List Int) (x0 : Seat) (w : World) (hX : SeatsAt w A X) (hY : SeatsAt w A' Y) (hgX : Good X) (hgY : Good Y) (hX20 : X.length ≤ 20) (hY20 : Y.length ≤ 20) (hx0 : X[0]? = some x0) (hsl : Bs w A2 salt) (hs8 : Bytes salt) (hsn : salt.length ≤ 900000000000) :
  Calls Tryd.prog 6 #[.string ch, .int .i64 ht, .agg #[.int .i64 sec, .int .i64 ns], .slice A X.length c, .slice A' Y.length c', .slice A2 salt.length c2] w fun e w' => ∃ H, e = .returned (.agg H.cells) ∧ Headed ch ht sec ns X Y x0.a salt H ∧ H.ok w' ∧ Below w.heap.size w w' := by
 suffices h : ∀ w0, (SeatsAt w0 A X) → (SeatsAt w0 A' Y) → (Bs w0 A2 salt) → Below w0.heap.size w0 w → Calls Tryd.prog 6 #[.string ch, .int .i64 ht, .agg #[.int .i64 sec, .int .i64 ns], .slice A X.length c, .slice A' Y.length c', .slice A2 salt.length c2] w fun e w' => ∃ H, e = .returned (.agg H.cells) ∧ Headed ch ht sec ns X Y x0.a salt H ∧ H.ok w' ∧ Below w0.heap.size w0 w' from h w hX hY hsl (bz_refl w)
 clear hX hY hsl
 intro w0 hX hY hsl hB
 refine enter_abs Tryd.func6 rfl 52 rfl (by simp) ?_
 intro a hs hd hargs
 have s0 := hargs 0 _ rfl
 have s1 := hargs 1 _ rfl
 have s2 := hargs 2 _ rfl
 have s3 := hargs 3 _ rfl
 have s4 := hargs 4 _ rfl
 have s5 := hargs 5 _ rfl
 clear hargs
 refine wp_seq ?_
 refine wp_region_list ?_
 show wpList _ _ _ [_, _] _ _
 refine tail_op rfl (fun K hK => ?_)
 have q2 := gd s2
 go_simp
 clear q2
 refine hK _ _ ?_
 clear hK K
 refine act_put (d := 8) _ hs hd (by decide) [(0, _), (1, _), (2, _), (3, _), (4, _), (5, _)] ⟨s0, s1, s2, s3, s4, s5, trivial⟩ rfl ?_
 clear hs hd s0 s1 s2 s3 s4 s5
 intro a hs hd zl
 obtain ⟨m, hE⟩ : ∃ B, Is w.heap.size B := is_self _
 generalize hw1 : World.alloc w _ = w1
 have hm : Blk w1 m 28 #[.int .i64 sec, .int .i64 ns] := by rw [← hw1, ← hE.out]; exact Blk.new w _ _
 have hB1 : Below w.heap.size w w1 := by rw [← hw1]; exact bz_alloc (bz_refl w) _
 replace hB := bz_then hB hB1
 obtain ⟨s8, s0, s1, s2, s3, s4, s5, -⟩ := zl
 rw [hE.out] at s8
 clear hw1 hB1 hE
 refine tail_op rfl (fun K hK => ?_)
 go_simp
 refine hK _ _ ?_
 clear hK K
 refine act_put (d := 12) _ hs hd (by decide) [(0, _), (1, _), (2, _), (3, _), (4, _), (5, _), (8, _)] ⟨s0, s1, s2, s3, s4, s5, s8, trivial⟩ rfl ?_
 clear hs hd s0 s1 s2 s3 s4 s5 s8
 intro a hs hd zl
 obtain ⟨z, hE⟩ : ∃ B, Is w1.heap.size B := is_self _
 generalize hw1 : World.alloc w1 _ = w2
 have hz : Blk w2 z 33 #[.int .i64 0, .int .i64 0, .string ⟨#[]⟩, .int .i64 0, .int .i64 0, .int .i64 0, .slice none 0 0, .int .i64 0, .slice none 0 0, .slice none 0 0, .slice none 0 0, .slice none 0 0, .slice none 0 0, .slice none 0 0, .slice none 0 0, .slice none 0 0, .slice none 0 0, .string ⟨#[]⟩] := by rw [← hw1, ← hE.out]; exact Blk.new w1 _ _
 have hB1 : Below w1.heap.size w1 w2 := by rw [← hw1]; exact bz_alloc (bz_refl w1) _
 have hBz := Nat.le_trans hB.size (Nat.le_of_eq hE.out)
 replace hB := bz_then hB hB1
 replace hm := hm.after hB1
 obtain ⟨s12, s0, s1, s2, s3, s4, s5, s8, -⟩ := zl
 rw [hE.out] at s12
 clear hw1 hB1 hE
 clear s2
 refine wp_seq ?_
 have hXn : 0 < X.length := (List.getElem?_eq_some_iff.1 hx0).1
 obtain ⟨b, o, rfl, hbw, hcl⟩ := (hX.after hB).at_ hXn
 have c0 : w2.cell? ⟨b, o, none⟩ = some (.string x0.a) := hcl 0 x0 hx0 0 _ rfl
 obtain ⟨B, hBB⟩ : ∃ B, Is w2.heap.size B := is_self _
 have hzB : z < B := by rw [← hBB.out]; exact hz.lt
 have hBu : ∀ u, Below w2.heap.size w2 u → B ≤ u.heap.size := fun u h => by rw [← hBB.out]; exact h.size
 clear hcl
 refine fl2 (F := [(0, _), (1, _), (3, _), (4, _), (5, _), (8, _), (12, _)]) [.eq 15 _, .eq 16 _, .eq 17 (.agg #[.int .i64 sec, .int .i64 ns]), .eq 18 _, FItem.bs 19 B (sha salt), .eq 20 _, FItem.bs 21 B (sha salt), FItem.bid 22 B (sha salt) (sha salt), .eq 23 _, .eq 24 _, .eq 25 _, .eq 26 _, FItem.h0 27 B ch ht sec ns x0.a (sha salt) (sha salt), FItem.pb 13 B 33 #[.int .i64 0, .int .i64 0, .string ⟨#[]⟩, .int .i64 0, .int .i64 0, .int .i64 0, .slice none 0 0, .int .i64 0, .slice none 0 0, .slice none 0 0, .slice none 0 0, .slice none 0 0, .slice none 0 0, .slice none 0 0, .slice none 0 0, .slice none 0 0, .slice none 0 0, .string ⟨#[]⟩]] 14 hs hd ⟨s0, s1, s3, s4, s5, s8, s12, trivial⟩
  ⟨(stp rfl fun a u hb hs hl hd K hK => by have s0 := gL hl 0; clear hd; go_simp; exact kE hK hs),
   (stp rfl fun a u hb hs hl hd K hK => by have s1 := gL hl 1; clear hd; go_simp; exact kE hK hs),
   (stp rfl fun a u hb hs hl hd K hK => by
    have s8 := gL hl 5
    have c0 := cell_up hb c0
    clear hd
    refine op_load_row 28 (.tmp 8) rfl m (gu s8) _ _ _ (hm.after hb) rfl rfl (by kernel_rfl) ?_
    exact kE hK hs),
   (stp rfl fun a u hb hs hl hd K hK => by have s5 := gL hl 4; clear hd; go_simp; exact kE hK hs),
   (stp rfl fun a u hb hs hl hd K hK => by
    have s18 := gD hd 3
    have c0 := cell_up hb c0
    clear hd
    have hs2 := hsl.after (bz_then hB hb)
    go_simp
    refine (c_specSum A2 c2 salt _ hs2 hs8 hsn).mono ?_
    intro e w5 h
    obtain ⟨v, rfl, hv, hb2⟩ := h.read.at_ (hBu _ hb)
    exact hK _ _ hb2 (bs_put hs (by decide) hv)),
   (stp rfl fun a u hb hs hl hd K hK => by have s5 := gL hl 4; clear hd; go_simp; exact kE hK hs),
   (stp rfl fun a u hb hs hl hd K hK => by
    have s20 := gD hd 5
    have c0 := cell_up hb c0
    clear hd
    have hs2 := hsl.after (bz_then hB hb)
    go_simp
    refine (c_specSum A2 c2 salt _ hs2 hs8 hsn).mono ?_
    intro e w5 h
    obtain ⟨v, rfl, hv, hb2⟩ := h.read.at_ (hBu _ hb)
    exact hK _ _ hb2 (bs_put hs (by decide) hv)),
   (stp rfl fun a u hb hs hl hd K hK => by
    have i19 := FItem.bs_holds.1 (dep_get0 hd 4 (by kernel_rfl))
    obtain ⟨v19, e19⟩ : ∃ v, Is (a.tmps.getD 19 undef) v := is_self _
    rw [e19.out] at i19
    have s19 := gd e19.out
    have i21 := FItem.bs_holds.1 (dep_get0 hd 6 (by kernel_rfl))
    obtain ⟨v21, e21⟩ : ∃ v, Is (a.tmps.getD 21 undef) v := is_self _
    rw [e21.out] at i21
    have s21 := gd e21.out
    have c0 := cell_up hb c0
    clear hd
    have j19 := i19
    obtain ⟨x19, A19, k19, -, rfl, -, -, -, -⟩ := j19
    have j21 := i21
    obtain ⟨x21, A21, k21, -, rfl, -, -, -, -⟩ := j21
    go_simp
    exact hK _ _ (Below.refl _ _) (bid_put hs (by decide) ⟨_, _, _, _, _, _, rfl, i19, i21⟩)),
   (stp rfl fun a u hb hs hl hd K hK => by have s3 := gL hl 2; clear hd; go_simp; exact kE hK hs),
   (stp rfl fun a u hb hs hl hd K hK => by have s23 := gD hd 8; clear hd; go_simp; exact kE hK hs),
   (stp rfl fun a u hb hs hl hd K hK => by have s24 := gD hd 9; clear hd; go_simp; exact kE hK hs),
   (stp rfl fun a u hb hs hl hd K hK => by have s25 := gD hd 10; have c0 := cell_up hb c0; clear hd; go_simp; exact kE hK hs),
   (stp rfl fun a u hb hs hl hd K hK => by
    have s15 := gD hd 0
    have s16 := gD hd 1
    have s17 := gD hd 2
    have i22 := FItem.bid_holds.1 (dep_get0 hd 7 (by kernel_rfl))
    obtain ⟨v22, e22⟩ : ∃ v, Is (a.tmps.getD 22 undef) v := is_self _
    rw [e22.out] at i22
    have s22 := gd e22.out
    have s26 := gD hd 11
    have c0 := cell_up hb c0
    clear hd
    obtain ⟨A19, k19, A21, k21, x19, x21, rfl, i19, i21⟩ := i22
    obtain ⟨bh, hbh, hbo, hbl, hbB⟩ := i19.sl2 (sha_bytes _) (by rw [shaN]; decide)
    obtain ⟨bp, hbp, hpo, hpl, hpB⟩ := i21.sl2 (sha_bytes _) (by rw [shaN]; decide)
    go_simp
    exact hK _ _ (Below.refl _ _) (h0_put hs (by decide) ⟨bh, bp, rfl, hbo, hpo, hbl, hpl, hbB, hpB⟩)),
   (stp rfl fun a u hb hs hl hd K hK => by
    have c0 := cell_up hb c0
    clear hd
    go_simp
    exact hK _ _ (bz_alloc (bz_refl _) _) (pb_put hs (by decide) ⟨_, rfl, Blk.new _ _ _, hBu _ hb⟩)),
   trivial⟩ ?_
 clear hs hd s0 s1 s3 s4 s5 s8 s12
 intro a w hb hs hd zl hh
 have i27 := FItem.h0_holds.1 (hold_get hh 12)
 obtain ⟨v27, s27⟩ : ∃ v, a.tmps.getD 27 undef = v := ⟨_, rfl⟩
 rw [s27] at i27
 have i13 := FItem.pb_holds.1 (hold_get hh 13)
 obtain ⟨v13, s13⟩ : ∃ v, a.tmps.getD 13 undef = v := ⟨_, rfl⟩
 rw [s13] at i13
 clear hh
 replace hm := hm.after hb
 replace hz := hz.after hb
 replace c0 := cell_up hb c0
 replace hB := bz_then hB hb
 clear hb
 show wpList _ _ _ [_] _ _
 refine tail_op rfl (fun K hK => ?_)
 have q13 := gd s13
 have q27 := gd s27
 obtain ⟨bh, bp, rfl, hbo, hpo, hbl, hpl, hbB, hpB⟩ := i27
 obtain ⟨g, rfl, hg0, hgB⟩ := i13
 refine op_store_row 33 (.tmp 13) (.tmp 27) rfl g s13 (mkH ch ht sec ns bh bp (fun _ => HSl.nil) x0.a).cells s27 33 _ hg0 rfl (by kernel_rfl) (Hd.one _) ?_
 clear q13 q27
 refine hK _ _ ?_
 clear hK K
 change wpList _ _ _ _ a _
 have hbf : bh.far w z g := ⟨hbo, fun k hk => ⟨by have := hbB k hk; omega, not_u8 hbo (by rw [hbl.out, shaN]; decide) hg0 z_not_u8 k hk⟩⟩
 have hpf : bp.far w z g := ⟨hpo, fun k hk => ⟨by have := hpB k hk; omega, not_u8 hpo (by rw [hpl.out, shaN]; decide) hg0 z_not_u8 k hk⟩⟩
 have hzg : z < g := by omega
 have hBg : w0.heap.size ≤ g := by omega
 have hgs := gb_setRow w g ((mkH ch ht sec ns bh bp (fun _ => HSl.nil) x0.a).cells)
 have hg := hg0.setRow ((mkH ch ht sec ns bh bp (fun _ => HSl.nil) x0.a).cells)
 replace hB := below_setRow hB hBg ((mkH ch ht sec ns bh bp (fun _ => HSl.nil) x0.a).cells)
 replace hz := hz.gbfar hgs (by omega)
 replace hbo := hbf.gbg hgs
 replace hpo := hpf.gbg hgs
 clear hbf hpf hgs hg0 hbB hpB
 generalize World.setRow w g _ = w1 at hg hB hz hbo hpo ⊢
 clear s27
 clear c0 hm hBu hzB
 have hsu : Sums (fun _ => HSl.nil) w1 z g := fun i => HSl.nil_far _ _ _
 refine wp_seq ?_
 refine wp_seq ?_
 refine wp_region_list ?_
 show wpList _ _ _ [_] _ _
 refine tail_op rfl (fun K hK => ?_)
 go_simp
 refine hK _ _ ?_
 clear hK K
 obtain ⟨-, -, s3, s4, s5, -, s12, -⟩ := zl
 refine act_put (d := 28) _ hs hd (by decide) [(3, _), (4, _), (5, _), (12, _), (13, _)] ⟨s3, s4, s5, s12, s13, trivial⟩ rfl ?_
 clear hs hd s3 s4 s5 s12 s13
 intro a hs hd zl
 refine wp_block ?_
 obtain ⟨s28, s3, s4, s5, s12, s13, -⟩ := zl
 refine wp_loop (fun a w => ∃ (k : Nat) (hh : Nat → HSl), SzIs a 52 ∧ DfNil a ∧ LiveAll [(3, .slice (some ⟨b, o, none⟩) X.length c), (4, .slice A' Y.length c'), (5, .slice A2 salt.length c2), (12, .pointer (some ⟨z, 0, none⟩)), (13, .pointer (some ⟨g, 0, none⟩)), (28, .int .i64 ((k : Nat) : Int))] a ∧ (k ≤ 8) ∧ (∀ i, i < k → (hh i).l.length = 32) ∧ (Below w0.heap.size w0 w) ∧ (Blk w z 33 #[.int .i64 0, .int .i64 0, .string ⟨#[]⟩, .int .i64 0, .int .i64 0, .int .i64 0, .slice none 0 0, .int .i64 0, .slice none 0 0, .slice none 0 0, .slice none 0 0, .slice none 0 0, .slice none 0 0, .slice none 0 0, .slice none 0 0, .slice none 0 0, .slice none 0 0, .string ⟨#[]⟩]) ∧ (Blk w g 33 (mkH ch ht sec ns bh bp hh x0.a).cells) ∧ (bh.far w z g) ∧ (bp.far w z g) ∧ (Sums hh w z g))
  (fun a _ => 8 - (intOf (a.tmps.getD 28 undef)).toNat) ⟨0, _, hs, hd, ⟨s3, s4, s5, s12, s13, s28, trivial⟩, by decide, (fun i h => absurd h (Nat.not_lt_zero i)), hB, hz, hg, hbo, hpo, hsu⟩ ?_
 clear hs hd s3 s4 s5 s12 s13 s28
 rintro a w ⟨k, hh, hs, hd, ⟨s3, s4, s5, s12, s13, s28, -⟩, hk, hln, hB, hz, hg, hbo, hpo, hsu⟩
 have hm : (intOf (a.tmps.getD 28 undef)).toNat = k := by rw [s28]; simp [intOf]
 rw [hm]
 clear hm
 have HLN := Is.hid hln
 clear hln
 by_cases hlt : k < 8
 ·have e1 : decide (k < 8) = true := decide_eq_true hlt
  have e2 : decide ((k : Int) < 8) = true := decide_eq_true (by omega)
  have ew : IntKind.i64.wrap ((k : Int) + 1) = ((k + 1 : Nat) : Int) := by rw [IntWalk.i64_in _ (by omega)]; omega
  have e8 : IntKind.u8.wrap (k : Int) = (k : Int) := (IntKind.wrap_u8' _).trans (by omega)
  have h8 : (k : Int) < 8 := by omega
  refine wp_seq ?_
  refine wp_region_list ?_
  show wpList _ _ _ [_] _ _
  refine tail_op rfl (fun K hK => ?_)
  have q28 := gd s28
  go_simp
  clear q28
  refine hK _ _ ?_
  clear hK K
  refine act_put (d := 29) _ hs hd (by decide) [(3, _), (4, _), (5, _), (12, _), (13, _), (28, _)] ⟨s3, s4, s5, s12, s13, s28, trivial⟩ rfl ?_
  clear hs hd s3 s4 s5 s12 s13 s28
  intro a hs hd zl
  refine wp_seq ?_
  refine wp_cond_true (vL zl 0) ?_
  refine wp_skip ?_
  refine wp_seq ?_
  refine wp_block ?_
  refine wp_seq ?_
  refine wp_region_list ?_
  show wpList _ _ _ [_, _] _ _
  refine tail_op rfl (fun K hK => ?_)
  have q28 := gL zl 6
  go_simp
  clear q28
  refine hK _ _ (tP hs hd zl ?_)
  clear hK K hs hd zl
  intro a hs hd zl
  refine tail_op rfl (fun K hK => ?_)
  have q30 := gL zl 0
  go_simp
  clear q30
  refine hK _ _ (tP hs hd zl ?_)
  clear hK K hs hd zl
  intro a hs hd zl
  refine wp_region_list ?_
  show wpList _ _ _ [_, _, _, _, _, _, _, _] _ _
  refine tail_op rfl (fun K hK => ?_)
  have q14 := gL zl 0
  go_simp
  clear q14
  refine hK _ _ (tP hs hd zl ?_)
  clear hK K hs hd zl
  intro a hs hd zl
  refine tail_op rfl (fun K hK => ?_)
  have q14 := gL zl 1
  go_simp
  clear q14
  refine hK _ _ (tP hs hd zl ?_)
  clear hK K hs hd zl
  intro a hs hd zl
  refine tail_op rfl (fun K hK => ?_)
  have q32 := gL zl 0
  go_simp
  clear q32
  refine hK _ _ (tP hs hd zl ?_)
  clear hK K hs hd zl
  intro a hs hd zl
  refine tail_op rfl (fun K hK => ?_)
  have q33 := gL zl 0
  go_simp
  clear q33
  refine hK _ _ (tP hs hd zl ?_)
  clear hK K hs hd zl
  intro a hs hd zl
  obtain ⟨g4, hE⟩ : ∃ B, Is w.heap.size B := is_self _
  generalize hw1 : World.alloc w _ = w1
  have hg4 : Blk w1 g4 5 #[.int .u8 (k : Int)] := by rw [← hw1, ← hE.out]; exact Blk.new w _ _
  have hB1 : Below w.heap.size w w1 := by rw [← hw1]; exact bz_alloc (bz_refl w) _
  replace hB := bz_then hB hB1
  replace hz := hz.after hB1
  replace hg := hg.after hB1
  replace hbo := hbo.after hB1
  replace hpo := hpo.after hB1
  replace hsu := hsu.after hB1
  obtain ⟨s34, s33, s32, s31, s14, -, -, s3, s4, s5, s12, s13, s28, -⟩ := zl
  rw [hE.out] at s34
  clear hw1 hB1 hE
  have hb1s : Bs w1 (some ⟨g4, 0, none⟩) [(k : Int)] := bs_u8s (l := [(k : Int)]) hg4
  refine tail_op rfl (fun K hK => ?_)
  have q34 := gd s34
  go_simp
  refine (c_specSum (some ⟨g4, 0, none⟩) 1 [(k : Int)] _ hb1s (Bytes.cons (by unfold U8; omega) Bytes.nil) (by simp)).mono ?_
  intro e w5 h
  obtain ⟨v, rfl, hv, hb2⟩ := h.read.at_ (Nat.le_refl _)
  clear q34
  refine hK _ _ ?_
  clear hK K
  refine act_put (d := 35) _ hs hd (by decide) [(3, _), (4, _), (5, _), (12, _), (13, _), (14, _), (28, _), (31, _), (32, _), (33, _), (34, _)] ⟨s3, s4, s5, s12, s13, s14, s28, s31, s32, s33, s34, trivial⟩ rfl ?_
  clear hs hd s3 s4 s5 s12 s13 s14 s28 s31 s32 s33 s34
  intro a hs hd zl
  have hgB := hg.lt
  have hzB := hz.lt
  replace hB := bz_then hB hb2
  replace hz := hz.after hb2
  replace hg := hg.after hb2
  replace hbo := hbo.after hb2
  replace hpo := hpo.after hb2
  replace hsu := hsu.after hb2
  obtain ⟨s, rfl, hsf, hsl2⟩ := hv.far (sha_bytes _) (by rw [shaN]; decide) hzB hgB
  obtain ⟨s35, s3, s4, s5, s12, s13, s14, s28, s31, s32, s33, s34, -⟩ := zl
  unfold HSl.v at s35
  clear hb2 hb1s hg4 hgB hzB
  refine tail_op rfl (fun K hK => ?_)
  have q13 := gd s13
  go_simp
  clear q13
  refine hK _ _ ?_
  clear hK K
  refine act_put (d := 36) _ hs hd (by decide) [(3, _), (4, _), (5, _), (12, _), (13, _), (14, _), (28, _), (31, _), (32, _), (33, _), (34, _), (35, _)] ⟨s3, s4, s5, s12, s13, s14, s28, s31, s32, s33, s34, s35, trivial⟩ rfl ?_
  clear hs hd s3 s4 s5 s12 s13 s14 s28 s31 s32 s33 s34 s35
  intro a hs hd zl
  refine tail_op rfl (fun K hK => ?_)
  have q31 := gL zl 8
  have q36 := gL zl 0
  go_simp
  clear q31 q36
  refine hK _ _ (tP hs hd zl ?_)
  clear hK K hs hd zl
  intro a hs hd zl
  refine tail_op rfl (fun K hK => ?_)
  have q35 := gL zl 13
  have q37 := gL zl 0
  have cz : w5.cell? ⟨g, 9 + k, none⟩ = some ((hh k).v) := by rw [hg.cell]; exact mkH_cell _ _ _ _ _ _ _ _ _ hlt
  unfold HSl.v at cz
  have fz : w5.frozen? ⟨g, 9 + k, none⟩ = false := hg.free _
  go_simp
  clear q35 q37
  refine hK _ _ ?_
  clear hK K
  change wpList _ _ _ _ a _
  have hgs := gb1 w5 g (9 + k) (.slice s.A s.l.length s.c)
  have hg2 : Blk (World.setCell w5 ⟨g, 9 + k, none⟩ (.slice s.A s.l.length s.c)) g 33 (mkH ch ht sec ns bh bp (updH hh k s) x0.a).cells := by
   have h := Blk.set_ hg (9 + k) s.v
   rw [show (mkH ch ht sec ns bh bp hh x0.a).cells.setIfInBounds (9 + k) s.v = _ from mkH_set ch ht sec ns bh bp hh x0.a k hlt s] at h
   exact h
  replace hB := Below.setCell hB (p := ⟨g, 9 + k, none⟩) hBg (.slice s.A s.l.length s.c)
  replace hz := hz.gbfar hgs (by omega)
  replace hbo := hbo.gbg hgs
  replace hpo := hpo.gbg hgs
  replace hsu := hsu.upd (k := k) hsf hgs
  clear hgs hg cz fz
  revert hg2 hB hz hbo hpo hsu
  generalize World.setCell w5 _ _ = w6
  intro hg hB hz hbo hpo hsu
  refine wp_region_list ?_
  show wpList _ _ _ [_, _] _ _
  refine tail_op rfl (fun K hK => ?_)
  have q28 := gL zl 8
  go_simp
  clear q28
  refine hK _ _ (tP hs hd zl ?_)
  clear hK K hs hd zl
  intro a hs hd zl
  refine tail_op rfl (fun K hK => ?_)
  have q38 := gL zl 0
  go_simp
  clear q38
  refine hK _ _ ?_
  clear hK K
  obtain ⟨s38, -, -, s3, s4, s5, s12, s13, -, s28, -, -, -, -, -, -⟩ := zl
  refine act_put (d := 28) _ hs hd (by decide) [(3, _), (4, _), (5, _), (12, _), (13, _), (38, _)] ⟨s3, s4, s5, s12, s13, s38, trivial⟩ rfl ?_
  clear hs hd s3 s4 s5 s12 s13 s28 s38
  intro a hs hd zl
  obtain ⟨s28, s3, s4, s5, s12, s13, -, -⟩ := zl
  refine ⟨⟨k + 1, updH hh k s, hs, hd, ⟨s3, s4, s5, s12, s13, s28, trivial⟩, hlt, (fun i hi => by
   by_cases e : i = k
   ·subst e; rw [updH_at, hsl2.out, shaN]
   ·rw [updH_ne _ _ e]; exact HLN.out i (by omega)), hB, hz, hg, hbo, hpo, hsu⟩, ?_⟩
  rw [s28]
  simp [intOf]
  omega
 obtain rfl : k = 8 := by omega
 have e1 : decide (8 < 8) = false := decide_eq_false (by omega)
 clear hlt
 refine wp_seq ?_
 refine wp_region_list ?_
 show wpList _ _ _ [_] _ _
 refine tail_op rfl (fun K hK => ?_)
 have q28 := gd s28
 go_simp
 clear q28
 refine hK _ _ ?_
 clear hK K
 refine act_put (d := 29) _ hs hd (by decide) [(3, _), (4, _), (5, _), (12, _), (13, _), (28, _)] ⟨s3, s4, s5, s12, s13, s28, trivial⟩ rfl ?_
 clear hs hd s3 s4 s5 s12 s13 s28
 intro a hs hd zl
 refine wp_seq ?_
 refine wp_cond_false (vL zl 0) ?_
 refine wp_exit ?_
 repeat refine then_exit ?_
 refine inBlock_exit ?_
 refine wp_seq ?_
 refine wp_region_list ?_
 show wpList _ _ _ [_, _, _, _, _, _, _, _, _, _, _, _, _, _, _] _ _
 refine tail_op rfl (fun K hK => ?_)
 have q3 := gL zl 1
 go_simp
 clear q3
 refine hK _ _ (tP hs hd zl ?_)
 clear hK K hs hd zl
 intro a hs hd zl
 refine tail_op rfl (fun K hK => ?_)
 have q39 := gL zl 0
 go_simp
 refine (c_SeatSum X (some ⟨b, o, none⟩) c _ hgX (hX.after hB) hX20).mono ?_
 rintro e w5 ⟨v, rfl, hv, hb2⟩
 clear q39
 refine hK _ _ (tP hs hd zl ?_)
 clear hK K hs hd zl
 intro a hs hd zl
 have hgB := hg.lt
 have hzB := hz.lt
 replace hv := hv.less (B' := _) (Nat.le_refl _)
 obtain ⟨r2, rfl, r2f, r2l⟩ := hv.far (rootN_bytes _ _) (by rw [rootN_len]; decide) hzB hgB
 obtain ⟨s40, s39, s29, s3, s4, s5, s12, s13, -, -⟩ := zl
 unfold HSl.v at s40
 replace hB := bz_then hB hb2
 replace hz := hz.after hb2
 replace hg := hg.after hb2
 replace hbo := hbo.after hb2
 replace hpo := hpo.after hb2
 replace hsu := hsu.after hb2
 clear hb2 hgB hzB
 refine tail_op rfl (fun K hK => ?_)
 have q4 := gd s4
 go_simp
 clear q4
 refine hK _ _ ?_
 clear hK K
 refine act_put (d := 41) _ hs hd (by decide) [(3, _), (4, _), (5, _), (12, _), (13, _), (29, _), (39, _), (40, _)] ⟨s3, s4, s5, s12, s13, s29, s39, s40, trivial⟩ rfl ?_
 clear hs hd s3 s4 s5 s12 s13 s29 s39 s40
 intro a hs hd zl
 refine tail_op rfl (fun K hK => ?_)
 have q41 := gL zl 0
 go_simp
 refine (c_SeatSum Y A' c' _ hgY (hY.after hB) hY20).mono ?_
 rintro e w5 ⟨v, rfl, hv, hb2⟩
 clear q41
 refine hK _ _ (tP hs hd zl ?_)
 clear hK K hs hd zl
 intro a hs hd zl
 have hgB := hg.lt
 have hzB := hz.lt
 replace hv := hv.less (B' := _) (Nat.le_refl _)
 obtain ⟨r3, rfl, r3f, r3l⟩ := hv.far (rootN_bytes _ _) (by rw [rootN_len]; decide) hzB hgB
 obtain ⟨s42, s41, s3, s4, s5, s12, s13, s29, s39, s40, -⟩ := zl
 unfold HSl.v at s42
 replace hB := bz_then hB hb2
 replace hz := hz.after hb2
 replace hg := hg.after hb2
 replace hbo := hbo.after hb2
 replace hpo := hpo.after hb2
 replace hsu := hsu.after hb2
 replace r2f := r2f.after hb2
 clear hb2 hgB hzB
 refine tail_op rfl (fun K hK => ?_)
 have q5 := gd s5
 go_simp
 clear q5
 refine hK _ _ ?_
 clear hK K
 refine act_put (d := 43) _ hs hd (by decide) [(3, _), (4, _), (5, _), (12, _), (13, _), (29, _), (39, _), (40, _), (41, _), (42, _)] ⟨s3, s4, s5, s12, s13, s29, s39, s40, s41, s42, trivial⟩ rfl ?_
 clear hs hd s3 s4 s5 s12 s13 s29 s39 s40 s41 s42
 intro a hs hd zl
 refine tail_op rfl (fun K hK => ?_)
 have q43 := gL zl 0
 go_simp
 refine (c_specSum A2 c2 salt _ (hsl.after hB) hs8 hsn).mono ?_
 intro e w5 h
 obtain ⟨v, rfl, hv, hb2⟩ := h.read.at_ (Nat.le_refl _)
 clear q43
 refine hK _ _ (tP hs hd zl ?_)
 clear hK K hs hd zl
 intro a hs hd zl
 have hgB := hg.lt
 have hzB := hz.lt
 replace hv := hv.less (B' := _) (Nat.le_refl _)
 obtain ⟨t5, rfl, t5f, t5l⟩ := hv.far (sha_bytes _) (by rw [shaN]; decide) hzB hgB
 obtain ⟨s44, s43, s3, s4, s5, s12, s13, s29, s39, s40, s41, s42, -⟩ := zl
 unfold HSl.v at s44
 replace hB := bz_then hB hb2
 replace hz := hz.after hb2
 replace hg := hg.after hb2
 replace hbo := hbo.after hb2
 replace hpo := hpo.after hb2
 replace hsu := hsu.after hb2
 replace r2f := r2f.after hb2
 replace r3f := r3f.after hb2
 clear hb2 hgB hzB
 refine tail_op rfl (fun K hK => ?_)
 have q13 := gd s13
 go_simp
 clear q13
 refine hK _ _ ?_
 clear hK K
 refine act_put (d := 45) _ hs hd (by decide) [(3, _), (4, _), (5, _), (12, _), (13, _), (29, _), (39, _), (40, _), (41, _), (42, _), (43, _), (44, _)] ⟨s3, s4, s5, s12, s13, s29, s39, s40, s41, s42, s43, s44, trivial⟩ rfl ?_
 clear hs hd s3 s4 s5 s12 s13 s29 s39 s40 s41 s42 s43 s44
 intro a hs hd zl
 refine tail_op rfl (fun K hK => ?_)
 have q45 := gL zl 0
 go_simp
 clear q45
 refine hK _ _ (tP hs hd zl ?_)
 clear hK K hs hd zl
 intro a hs hd zl
 refine tail_op rfl (fun K hK => ?_)
 have q40 := gL zl 9
 have q46 := gL zl 0
 have cz : w5.cell? ⟨g, 11, none⟩ = some ((hh 2).v) := by rw [hg.cell]; exact mkH_cell _ _ _ _ _ _ _ _ 2 (by decide)
 unfold HSl.v at cz
 have fz : w5.frozen? ⟨g, 11, none⟩ = false := hg.free _
 go_simp
 clear q40 q46
 refine hK _ _ ?_
 clear hK K
 change wpList _ _ _ _ a _
 have hgs := gb1 w5 g (11) (.slice r2.A r2.l.length r2.c)
 have hg2 : Blk (World.setCell w5 ⟨g, 11, none⟩ (.slice r2.A r2.l.length r2.c)) g 33 (mkH ch ht sec ns bh bp (updH hh 2 r2) x0.a).cells := by
  have h := Blk.set_ hg (11) r2.v
  rw [show (mkH ch ht sec ns bh bp hh x0.a).cells.setIfInBounds (11) r2.v = _ from mkH_set ch ht sec ns bh bp hh x0.a 2 (by decide) r2] at h
  exact h
 replace hB := Below.setCell hB (p := ⟨g, 11, none⟩) hBg (.slice r2.A r2.l.length r2.c)
 replace hz := hz.gbfar hgs (by omega)
 replace hbo := hbo.gbg hgs
 replace hpo := hpo.gbg hgs
 replace hsu := hsu.upd (k := 2) r2f hgs
 replace r3f := r3f.gbg hgs
 replace t5f := t5f.gbg hgs
 clear hgs hg cz fz
 revert hg2 hB hz hbo hpo hsu r3f t5f
 generalize World.setCell w5 _ _ = w6
 intro hg hB hz hbo hpo hsu r3f t5f
 refine tail_op rfl (fun K hK => ?_)
 have q13 := gL zl 6
 go_simp
 clear q13
 refine hK _ _ (tP hs hd zl ?_)
 clear hK K hs hd zl
 intro a hs hd zl
 refine tail_op rfl (fun K hK => ?_)
 have q47 := gL zl 0
 go_simp
 clear q47
 refine hK _ _ (tP hs hd zl ?_)
 clear hK K hs hd zl
 intro a hs hd zl
 refine tail_op rfl (fun K hK => ?_)
 have q42 := gL zl 13
 have q48 := gL zl 0
 have cz : w6.cell? ⟨g, 12, none⟩ = some (((updH hh 2 r2) 3).v) := by rw [hg.cell]; exact mkH_cell _ _ _ _ _ _ _ _ 3 (by decide)
 unfold HSl.v at cz
 have fz : w6.frozen? ⟨g, 12, none⟩ = false := hg.free _
 go_simp
 clear q42 q48
 refine hK _ _ ?_
 clear hK K
 change wpList _ _ _ _ a _
 have hgs := gb1 w6 g (12) (.slice r3.A r3.l.length r3.c)
 have hg2 : Blk (World.setCell w6 ⟨g, 12, none⟩ (.slice r3.A r3.l.length r3.c)) g 33 (mkH ch ht sec ns bh bp (updH (updH hh 2 r2) 3 r3) x0.a).cells := by
  have h := Blk.set_ hg (12) r3.v
  rw [show (mkH ch ht sec ns bh bp (updH hh 2 r2) x0.a).cells.setIfInBounds (12) r3.v = _ from mkH_set ch ht sec ns bh bp (updH hh 2 r2) x0.a 3 (by decide) r3] at h
  exact h
 replace hB := Below.setCell hB (p := ⟨g, 12, none⟩) hBg (.slice r3.A r3.l.length r3.c)
 replace hz := hz.gbfar hgs (by omega)
 replace hbo := hbo.gbg hgs
 replace hpo := hpo.gbg hgs
 replace hsu := hsu.upd (k := 3) r3f hgs
 replace t5f := t5f.gbg hgs
 clear hgs hg cz fz
 revert hg2 hB hz hbo hpo hsu t5f
 generalize World.setCell w6 _ _ = w7
 intro hg hB hz hbo hpo hsu t5f
 refine tail_op rfl (fun K hK => ?_)
 have q13 := gL zl 8
 go_simp
 clear q13
 refine hK _ _ (tP hs hd zl ?_)
 clear hK K hs hd zl
 intro a hs hd zl
 refine tail_op rfl (fun K hK => ?_)
 have q49 := gL zl 0
 go_simp
 clear q49
 refine hK _ _ (tP hs hd zl ?_)
 clear hK K hs hd zl
 intro a hs hd zl
 refine tail_op rfl (fun K hK => ?_)
 have q44 := gL zl 17
 have q50 := gL zl 0
 have cz : w7.cell? ⟨g, 14, none⟩ = some (((updH (updH hh 2 r2) 3 r3) 5).v) := by rw [hg.cell]; exact mkH_cell _ _ _ _ _ _ _ _ 5 (by decide)
 unfold HSl.v at cz
 have fz : w7.frozen? ⟨g, 14, none⟩ = false := hg.free _
 go_simp
 clear q44 q50
 refine hK _ _ ?_
 clear hK K
 change wpList _ _ _ _ a _
 have hgs := gb1 w7 g (14) (.slice t5.A t5.l.length t5.c)
 have hg2 : Blk (World.setCell w7 ⟨g, 14, none⟩ (.slice t5.A t5.l.length t5.c)) g 33 (mkH ch ht sec ns bh bp (updH (updH (updH hh 2 r2) 3 r3) 5 t5) x0.a).cells := by
  have h := Blk.set_ hg (14) t5.v
  rw [show (mkH ch ht sec ns bh bp (updH (updH hh 2 r2) 3 r3) x0.a).cells.setIfInBounds (14) t5.v = _ from mkH_set ch ht sec ns bh bp (updH (updH hh 2 r2) 3 r3) x0.a 5 (by decide) t5] at h
  exact h
 replace hB := Below.setCell hB (p := ⟨g, 14, none⟩) hBg (.slice t5.A t5.l.length t5.c)
 replace hz := hz.gbfar hgs (by omega)
 replace hbo := hbo.gbg hgs
 replace hpo := hpo.gbg hgs
 replace hsu := hsu.upd (k := 5) t5f hgs
 clear hgs hg cz fz
 revert hg2 hB hz hbo hpo hsu
 generalize World.setCell w7 _ _ = w8
 intro hg hB hz hbo hpo hsu
 refine wp_seq ?_
 obtain ⟨h4, hh4⟩ : ∃ h, Is (updH (updH (updH hh 2 r2) 3 r3) 5 t5) h := is_self _
 rw [show updH (updH (updH hh 2 r2) 3 r3) 5 t5 = h4 from hh4.out] at hg hsu
 refine wp_region_list ?_
 show wpList _ _ _ [_, _] _ _
 refine tail_op rfl (fun K hK => ?_)
 have q13 := gL zl 10
 have s13 := vL zl 10
 refine op_load_row 33 (.tmp 13) rfl g s13 _ _ _ hg rfl rfl (by kernel_rfl) ?_
 clear q13
 refine hK _ _ (tP hs hd zl ?_)
 clear hK K hs hd zl s13
 intro a hs hd zl
 refine tail_op rfl (fun K hK => ?_)
 have q12 := gL zl 10
 have q51 := gL zl 0
 have s12 := vL zl 10
 have s51 := vL zl 0
 refine op_store_row 33 (.tmp 12) (.tmp 51) rfl z s12 (mkH ch ht sec ns bh bp h4 x0.a).cells s51 33 _ hz rfl (by kernel_rfl) (Hd.one _) ?_
 clear q12 q51
 refine hK _ _ ?_
 clear hK K
 change wpList _ _ _ _ a _
 have hgs := gb_setRow w8 z ((mkH ch ht sec ns bh bp h4 x0.a).cells)
 have hz2 := hz.setRow ((mkH ch ht sec ns bh bp h4 x0.a).cells)
 replace hB := below_setRow hB hBz ((mkH ch ht sec ns bh bp h4 x0.a).cells)
 replace hbo := hbo.gbz hgs
 replace hpo := hpo.gbz hgs
 replace hsu : Sums h4 _ z g := fun i => (hsu i).gbz hgs
 clear hgs hg hz
 revert hz2 hB hbo hpo hsu
 generalize World.setRow w8 z _ = w9
 intro hz2 hB hbo hpo hsu
 clear s51
 have k2 : h4 2 = r2 := by rw [← hh4.out]; rfl
 have k3 : h4 3 = r3 := by rw [← hh4.out]; rfl
 have k5 : h4 5 = t5 := by rw [← hh4.out]; rfl
 have kk : ∀ i, i < 8 → (h4 i).l.length = 32 := fun i hi => by
  rw [← hh4.out]
  by_cases e5 : i = 5
  ·subst e5; rw [updH_at, t5l.out, shaN]
  ·rw [updH_ne _ _ e5]
   by_cases e3 : i = 3
   ·subst e3; rw [updH_at, r3l.out, rootN_len]
   ·rw [updH_ne _ _ e3]
    by_cases e2 : i = 2
    ·subst e2; rw [updH_at, r2l.out, rootN_len]
    ·rw [updH_ne _ _ e2]; exact HLN.out i hi
 refine wp_ret ?_
 exact end_row rfl z s12 hd.out 33 _ _ hz2 Tryd.underlying33 rfl (by kernel_rfl) ⟨(mkH ch ht sec ns bh bp h4 x0.a), rfl, ⟨bh, bp, h4, rfl, hbl.out, hpl.out, by rw [k2]; exact r2l.out, by rw [k3]; exact r3l.out, by rw [k5]; exact t5l.out, kk⟩, ⟨hbo.ok, hpo.ok, fun i _ => (hsu i).ok⟩, hB⟩
end Go.Proofs.YtcmllcmcbamlbaaDoor
