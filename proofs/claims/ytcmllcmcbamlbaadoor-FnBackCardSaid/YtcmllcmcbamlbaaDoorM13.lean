/- The reference's Ranked hands back the same seats in some order. (Printed by gen_ranked.py.) -/
import Derived.Test.YtcmllcmcbamlbaaDoorM12
import Derived.Test.YtcmllcmcbamlbaaDoorM2
set_option linter.unusedVariables false
set_option linter.unusedSimpArgs false
namespace Go.Proofs.YtcmllcmcbamlbaaDoor
open Go.RowKit
theorem seat_info : (Tryd.prog.info? 50).map (fun i => (i.zero, i.size, i.bytes)) = some (some (.agg #[.string ⟨#[]⟩, .string ⟨#[]⟩, .int .i64 0, .int .i64 0]), 4, 48) := by kernel_rfl
theorem flat_set {α : Type} : ∀ {R : List (List α)} {i : Nat} {r rest : List α}, (∀ x ∈ R, x.length = 4) → i < R.length → r.length = 4 →
  (R.flatten ++ rest).take (i * 4) ++ r ++ (R.flatten ++ rest).drop (i * 4 + 4) = (R.set i r).flatten ++ rest
 | [], i, _, _, _, hi, _ => absurd hi (Nat.not_lt_zero i)
 | x :: R, 0, r, rest, h, _, _ => by
  have hx := h x (List.mem_cons_self ..)
  rw [Nat.zero_mul, List.take_zero, List.nil_append, Nat.zero_add, List.flatten_cons, List.append_assoc, List.drop_append, hx, Nat.sub_self, List.drop_of_length_le (by omega), List.drop_zero, List.nil_append, List.set_cons_zero, List.flatten_cons, List.append_assoc]
 | x :: R, i + 1, r, rest, h, hi, hr => by
  have hx := h x (List.mem_cons_self ..)
  have ih := flat_set (R := R) (i := i) (r := r) (rest := rest) (fun y hy => h y (List.mem_cons_of_mem _ hy)) (by simpa using hi) hr
  have e : (x :: R).flatten ++ rest = x ++ (R.flatten ++ rest) := by rw [List.flatten_cons, List.append_assoc]
  have e1 : (x ++ (R.flatten ++ rest)).take ((i + 1) * 4) = x ++ (R.flatten ++ rest).take (i * 4) := by
   rw [List.take_append, hx, List.take_of_length_le (by rw [hx]; omega), show (i + 1) * 4 - 4 = i * 4 by omega]
  have e2 : (x ++ (R.flatten ++ rest)).drop ((i + 1) * 4 + 4) = (R.flatten ++ rest).drop (i * 4 + 4) := by
   rw [List.drop_append, hx, List.drop_of_length_le (by rw [hx]; omega), List.nil_append, show (i + 1) * 4 + 4 - 4 = i * 4 + 4 by omega]
  rw [e, e1, e2, List.set_cons_succ, List.flatten_cons, List.append_assoc x, List.append_assoc x, List.append_assoc x, ih]
theorem seatRows4 (S : List Seat) : ∀ r ∈ seatRows S, r.length = 4 := by
 intro r hr
 obtain ⟨s, _, rfl⟩ := List.mem_map.1 hr
 rfl
theorem seatRows_set (S : List Seat) (i : Nat) (s : Seat) : seatRows (S.set i s) = (seatRows S).set i s.cells := by unfold seatRows; rw [List.map_set]
/-- The block of a list of seats of the call's own. -/
def SBl (S : List Seat) (rest : List Value) : Array Value := ((seatRows S).flatten ++ rest).toArray
def SB (w : World) (g : Nat) (S : List Seat) (rest : List Value) : Prop := Blk w g 50 (SBl S rest)
theorem SBl_set (S : List Seat) (rest : List Value) (i : Nat) (s : Seat) (hi : i < S.length) : putAt (SBl S rest) (i * 4) s.cells.toArray = SBl (S.set i s) rest := by
 unfold putAt SBl
 rw [seatRows_set, ← flat_set (seatRows4 S) (by rw [seatRows_length]; exact hi) (show s.cells.length = 4 from rfl)]
 rfl
theorem SB.cell {w : World} {g : Nat} {S : List Seat} {rest : List Value} (h : SB w g S rest) {i : Nat} {s : Seat} (hs : S[i]? = some s) {j : Nat} {v : Value} (hv : s.cells[j]? = some v) : w.cell? ⟨g, i * 4 + j, none⟩ = some v := by
 have hj : j < 4 := (List.getElem?_eq_some_iff.1 hv).1
 have hi : i < S.length := (List.getElem?_eq_some_iff.1 hs).1
 rw [Blk.cell h]
 unfold SBl
 rw [List.getElem?_toArray, List.getElem?_append_left (by rw [flatten_len (seatRows4 S), seatRows_length]; omega), flatten_get (seatRows4 S) i _ (seatRows_get hs) j hj, hv]
theorem SBl_size (S : List Seat) (rest : List Value) : S.length * 4 ≤ (SBl S rest).size := by
 unfold SBl
 rw [List.size_toArray, List.length_append, flatten_len (seatRows4 S), seatRows_length]
 omega
def swp (S : List Seat) (k m : Nat) (sk sm : Seat) : Nat → List Seat
 | 0 => S
 | 1 => S.set k sm
 | _ => (S.set k sm).set m sk
theorem SBl_room (S : List Seat) (rest : List Value) (i : Nat) (hi : i < S.length) : i * 4 + 4 ≤ (SBl S rest).size := by
 have := SBl_size S rest
 omega
theorem OwnR.sb {base : Nat} {w : World} {A : Option Addr} {c : Nat} {S : List Seat} (h : OwnR 50 4 base w A c (seatRows S)) (hn : 0 < S.length) : ∃ g rest, A = some ⟨g, 0, none⟩ ∧ base ≤ g ∧ SB w g S rest ∧ (SBl S rest).size = c * 4 ∧ S.length ≤ c := by
 rcases h.form with ⟨_, _, h0⟩ | ⟨g, cur, h1, h2, h3, h4, h5, h6, h7⟩
 ·rw [← seatRows_length, h0] at hn
  exact absurd hn (Nat.not_lt_zero 0)
 ·have e : cur = SBl S (cur.toList.drop ((seatRows S).length * 4)) := by
   unfold SBl
   rw [← h7, List.take_append_drop]
  rw [seatRows_length] at h5
  refine ⟨g, cur.toList.drop ((seatRows S).length * 4), h1, h2, ?_, ?_, h5⟩
  ·unfold SB
   rw [← e]
   exact h4
  ·rw [← e]; exact h6
theorem SB.own {base : Nat} {w : World} {g c : Nat} {S : List Seat} {rest : List Value} (h : SB w g S rest) (hb : base ≤ g) (hc : (SBl S rest).size = c * 4) (hl : S.length ≤ c) (hm : c ≤ maxLen) : OwnR 50 4 base w (some ⟨g, 0, none⟩) c (seatRows S) := by
 refine ⟨seatRows4 S, by rw [flatten_len (seatRows4 S)], .inr ⟨g, c, SBl S rest, rfl, hb, h, by rw [seatRows_length]; exact hl, hm, hc, ?_⟩⟩
 unfold SBl
 rw [← flatten_len (seatRows4 S)]
 exact List.take_left
theorem OwnR.max {e : TypeId} {k base : Nat} {w : World} {A : Option Addr} {c : Nat} {R : List (List Value)} (h : OwnR e k base w A c R) : c ≤ maxLen := by
 rcases h.2.2 with ⟨h1, _⟩ | ⟨g, cap, cur, h1, _, _, _, h5, _⟩
 ·injection h1 with _ _ h1; rw [h1]; exact Nat.zero_le _
 ·injection h1 with _ _ h1; rw [h1]; exact h5
theorem SBl_size_set (S : List Seat) (rest : List Value) (i : Nat) (s : Seat) : (SBl (S.set i s) rest).size = (SBl S rest).size := by
 unfold SBl
 rw [List.size_toArray, List.size_toArray, List.length_append, List.length_append, flatten_len (seatRows4 _), flatten_len (seatRows4 _), seatRows_length, seatRows_length, List.length_set]

set_option maxHeartbeats 4000000 in
set_option maxRecDepth 100000 in
theorem c_Ranked (S : List Seat) (A : Option Addr) (c : Nat) (w : World) (hS : SeatsAt w A S) (hA : S = [] → A = none ∧ c = 0) (h20 : S.length ≤ 20) :
  Calls Tryd.prog 16 #[.slice A S.length c] w fun e w' => ∃ S' A' c', e = .returned (.slice A' S'.length c') ∧ List.Perm S' S ∧ OwnR 50 4 w.heap.size w' A' c' (seatRows S') ∧ Below w.heap.size w w' := by
 suffices h : ∀ w0, (SeatsAt w0 A S) → Below w0.heap.size w0 w → Calls Tryd.prog 16 #[.slice A S.length c] w fun e w' => ∃ S' A' c', e = .returned (.slice A' S'.length c') ∧ List.Perm S' S ∧ OwnR 50 4 w0.heap.size w' A' c' (seatRows S') ∧ Below w0.heap.size w0 w' from h w hS (bz_refl w)
 clear hS
 intro w0 hS hB
 refine enter_abs Tryd.func16 rfl 78 rfl (by simp) ?_
 intro a hs hd hargs
 have s0 := hargs 0 _ rfl
 clear hargs
 refine wp_seq ?_
 refine wp_region_list ?_
 show wpList _ _ _ [_] _ _
 refine tail_op rfl (fun K hK => ?_)
 go_simp
 refine hK _ _ ?_
 clear hK K
 refine act_put (d := 2) _ hs hd (by decide) [(0, _)] ⟨s0, trivial⟩ rfl ?_
 clear hs hd s0
 intro a hs hd zl
 obtain ⟨n, hn⟩ : ∃ n, Is S.length n := is_self _
 have hn20 : n ≤ 20 := by rw [← hn.out]; exact h20
 obtain ⟨-, s0, -⟩ := zl
 rw [show S.length = n from hn.out] at s0
 by_cases hz : n = 0
 ·subst hz
  have hS0 : S = [] := List.eq_nil_of_length_eq_zero hn.out
  obtain ⟨rfl, rfl⟩ := hA hS0
  subst hS0
  refine wp_seq ?_
  obtain ⟨i0, hi0, -, -, -⟩ := info_parts seat_info
  have ka := fun (w : World) (ty : TypeId) => run_append_of_nil (P := Tryd.prog) w w.heap.size 25 ty 50 _ 4 Tryd.underlying25 hi0 _ _ _ (World.ownsRow_nil w w.heap.size 50 4) 0
  refine wp_region_list ?_
  show wpList _ _ _ [_, _, _] _ _
  refine tail_op rfl (fun K hK => ?_)
  have q0 := gd s0
  go_simp
  clear q0
  refine hK _ _ ?_
  clear hK K
  refine act_put (d := 6) _ hs hd (by decide) [(0, _)] ⟨s0, trivial⟩ rfl ?_
  clear hs hd s0
  intro a hs hd zl
  refine tail_op rfl (fun K hK => ?_)
  have q6 := gL zl 0
  go_simp
  clear q6
  refine hK _ _ (tP hs hd zl ?_)
  clear hK K hs hd zl
  intro a hs hd zl
  refine tail_op rfl (fun K hK => ?_)
  have q7 := gL zl 0
  go_simp
  clear q7
  refine hK _ _ (tP hs hd zl ?_)
  clear hK K hs hd zl
  intro a hs hd zl
  clear ka
  refine wp_seq ?_
  refine wp_seq ?_
  refine wp_region_list ?_
  show wpList _ _ _ [_, _, _] _ _
  refine tail_op rfl (fun K hK => ?_)
  have q3 := gL zl 0
  go_simp
  clear q3
  refine hK _ _ (tP hs hd zl ?_)
  clear hK K hs hd zl
  intro a hs hd zl
  refine tail_op rfl (fun K hK => ?_)
  have q8 := gL zl 0
  go_simp
  clear q8
  refine hK _ _ (tP hs hd zl ?_)
  clear hK K hs hd zl
  intro a hs hd zl
  refine tail_op rfl (fun K hK => ?_)
  go_simp
  refine hK _ _ (tP hs hd zl ?_)
  clear hK K hs hd zl
  intro a hs hd zl
  refine wp_block ?_
  refine wp_loop_once ?_
  refine wp_seq ?_
  refine wp_region_list ?_
  show wpList _ _ _ [_] _ _
  refine tail_op rfl (fun K hK => ?_)
  have q9 := gL zl 1
  have q10 := gL zl 0
  go_simp
  clear q9 q10
  refine hK _ _ (tP hs hd zl ?_)
  clear hK K hs hd zl
  intro a hs hd zl
  refine wp_seq ?_
  refine wp_cond_false (vL zl 0) ?_
  refine wp_exit ?_
  repeat refine then_exit ?_
  refine inBlock_exit ?_
  refine wp_seq ?_
  refine wp_region_list ?_
  show wpList _ _ _ [_, _] _ _
  refine tail_op rfl (fun K hK => ?_)
  have q3 := gL zl 4
  go_simp
  clear q3
  refine hK _ _ (tP hs hd zl ?_)
  clear hK K hs hd zl
  intro a hs hd zl
  refine tail_op rfl (fun K hK => ?_)
  have q77 := gL zl 0
  go_simp
  clear q77
  refine hK _ _ (tP hs hd zl ?_)
  clear hK K hs hd zl
  intro a hs hd zl
  refine wp_ret ?_
  exact end_tmp rfl hd (vL zl 0) ⟨[], none, 0, rfl, List.Perm.refl _, OwnR.nil _ _ _ _, hB⟩
 refine wp_seq ?_
 refine wp_region_list ?_
 show wpList _ _ _ [_, _, _] _ _
 refine tail_op rfl (fun K hK => ?_)
 have q0 := gd s0
 go_simp
 clear q0
 refine hK _ _ ?_
 clear hK K
 refine act_put (d := 6) _ hs hd (by decide) [(0, _)] ⟨s0, trivial⟩ rfl ?_
 clear hs hd s0
 intro a hs hd zl
 refine tail_op rfl (fun K hK => ?_)
 have q6 := gL zl 0
 have hSa := hS.after hB
 have s6 := vL zl 0
 refine op_app_copy (c2 := c) (R := seatRows S) (.const (Value.slice none 0 0)) (.tmp 6) rfl Tryd.underlying25 seat_info rfl (by decide) rfl (by rw [seatRows_length, hn.out]; exact s6) hSa (by rw [seatRows_length, hn.out]; omega) (fun r hr => by obtain ⟨s, _, rfl⟩ := List.mem_map.1 hr; exact seat_one s) (by rw [seatRows_length]; omega) (by decide) ?_
 intro A' c' w2 hown hbel
 rw [seatRows_length, show S.length = n from hn.out]
 clear q6
 refine hK _ _ (tP hs hd zl ?_)
 clear hK K hs hd zl s6
 intro a hs hd zl
 have hBo := hB.size
 replace hB := bz_then hB hbel
 clear hbel hSa
 refine tail_op rfl (fun K hK => ?_)
 have q7 := gL zl 0
 go_simp
 clear q7
 refine hK _ _ (tP hs hd zl ?_)
 clear hK K hs hd zl
 intro a hs hd zl
 obtain ⟨g, rest, rfl, hge, hsb, hsz, hlc⟩ := hown.sb (by rw [hn.out]; omega)
 have hcm := hown.max
 have hg0 : w0.heap.size ≤ g := Nat.le_trans hBo hge
 clear hown hge hBo
 refine wp_seq ?_
 refine wp_seq ?_
 refine wp_region_list ?_
 show wpList _ _ _ [_, _, _] _ _
 refine tail_op rfl (fun K hK => ?_)
 have q3 := gL zl 0
 go_simp
 clear q3
 refine hK _ _ (tP hs hd zl ?_)
 clear hK K hs hd zl
 intro a hs hd zl
 refine tail_op rfl (fun K hK => ?_)
 have q8 := gL zl 0
 go_simp
 clear q8
 refine hK _ _ (tP hs hd zl ?_)
 clear hK K hs hd zl
 intro a hs hd zl
 refine tail_op rfl (fun K hK => ?_)
 go_simp
 refine hK _ _ (tP hs hd zl ?_)
 clear hK K hs hd zl
 intro a hs hd zl
 refine wp_block ?_
 obtain ⟨s10, s9, -, s3, -, -, -, -⟩ := zl
 refine wp_loop (fun a w => ∃ (i : Nat) (S' : List Seat), SzIs a 78 ∧ DfNil a ∧ LiveAll [(3, .slice (some ⟨g, 0, none⟩) n c'), (9, .int .i64 ((n : Nat) : Int)), (10, .int .i64 ((i : Nat) : Int))] a ∧ (i ≤ n) ∧ (Below w0.heap.size w0 w) ∧ (List.Perm S' S) ∧ (SB w g S' rest) ∧ ((SBl S' rest).size = c' * 4))
  (fun a _ => n - (intOf (a.tmps.getD 10 undef)).toNat) ⟨0, S, hs, hd, ⟨s3, s9, s10, trivial⟩, Nat.zero_le _, hB, List.Perm.refl _, hsb, hsz⟩ ?_
 clear hs hd s3 s9 s10
 rintro a w ⟨i, S', hs, hd, ⟨s3, s9, s10, -⟩, hi, hB, hp, hsb, hsz⟩
 have hm : (intOf (a.tmps.getD 10 undef)).toNat = i := by rw [s10]; simp [intOf]
 rw [hm]
 clear hm
 have hHi := Is.hid hi
 by_cases hlt : i < n
 ·have e1 : decide (i < n) = true := decide_eq_true hlt
  have e2 : decide ((i : Int) < (n : Int)) = true := decide_eq_true (by omega)
  have ew : IntKind.i64.wrap ((i : Int) + 1) = ((i + 1 : Nat) : Int) := by rw [IntWalk.i64_in _ (by omega)]; omega
  refine wp_seq ?_
  refine wp_region_list ?_
  show wpList _ _ _ [_] _ _
  refine tail_op rfl (fun K hK => ?_)
  have q9 := gd s9
  have q10 := gd s10
  go_simp
  clear q9 q10
  refine hK _ _ ?_
  clear hK K
  refine act_put (d := 11) _ hs hd (by decide) [(3, _), (9, _), (10, _)] ⟨s3, s9, s10, trivial⟩ rfl ?_
  clear hs hd s3 s9 s10
  intro a hs hd zl
  refine wp_seq ?_
  refine wp_cond_true (vL zl 0) ?_
  refine wp_skip ?_
  refine wp_seq ?_
  refine wp_block ?_
  refine wp_seq ?_
  refine wp_region_list ?_
  show wpList _ _ _ [_, _] _ _
  refine tail_op rfl (fun K hK => ?_)
  have q10 := gL zl 3
  go_simp
  clear q10
  refine hK _ _ (tP hs hd zl ?_)
  clear hK K hs hd zl
  intro a hs hd zl
  refine tail_op rfl (fun K hK => ?_)
  have q12 := gL zl 0
  go_simp
  clear q12
  refine hK _ _ (tP hs hd zl ?_)
  clear hK K hs hd zl
  intro a hs hd zl
  refine wp_seq ?_
  refine wp_region_list ?_
  show wpList _ _ _ [_, _] _ _
  refine tail_op rfl (fun K hK => ?_)
  have q4 := gL zl 0
  go_simp
  clear q4
  refine hK _ _ (tP hs hd zl ?_)
  clear hK K hs hd zl
  intro a hs hd zl
  refine tail_op rfl (fun K hK => ?_)
  have q13 := gL zl 0
  go_simp
  clear q13
  refine hK _ _ (tP hs hd zl ?_)
  clear hK K hs hd zl
  intro a hs hd zl
  refine wp_block ?_
  clear e1 e2 ew
  obtain ⟨s5, -, -, -, -, s3, s9, s10, -⟩ := zl
  refine wp_loop (fun a w => ∃ (k : Nat) (S' : List Seat), SzIs a 78 ∧ DfNil a ∧ LiveAll [(3, .slice (some ⟨g, 0, none⟩) n c'), (9, .int .i64 ((n : Nat) : Int)), (10, .int .i64 ((i : Nat) : Int)), (5, .int .i64 ((k : Nat) : Int))] a ∧ (k ≤ i) ∧ (Below w0.heap.size w0 w) ∧ (List.Perm S' S) ∧ (SB w g S' rest) ∧ ((SBl S' rest).size = c' * 4))
   (fun a _ => (intOf (a.tmps.getD 5 undef)).toNat) ⟨i, S', hs, hd, ⟨s3, s9, s10, s5, trivial⟩, Nat.le_refl _, hB, hp, hsb, hsz⟩ ?_
  clear hs hd s3 s5 s9 s10
  rintro a w ⟨k, S', hs, hd, ⟨s3, s9, s10, s5, -⟩, hk, hB, hp, hsb, hsz⟩
  have hm : (intOf (a.tmps.getD 5 undef)).toNat = k := by rw [s5]; simp [intOf]
  rw [hm]
  clear hm
  have hln : S'.length = n := hp.length_eq.trans hn.out
  have HSZ := Is.hid hsz
  clear hsz
  by_cases hk0 : k = 0
  ·subst hk0
   refine wp_seq ?_
   refine wp_seq ?_
   refine fl2 (F := [(3, _), (5, _), (9, _), (10, _)]) [FItem.eq 14 _, FItem.eq 15 (.bool false), FItem.eq 16 (.bool false), FItem.eq 17 _, FItem.eq 18 _, FItem.eq 19 _, FItem.eq 20 _, FItem.eq 21 _, FItem.eq 22 _, FItem.eq 23 _, FItem.eq 24 _, FItem.eq 25 _, FItem.eq 26 _, FItem.eq 27 _, FItem.eq 28 _, FItem.eq 29 (undef), FItem.eq 30 _, FItem.eq 31 _, FItem.eq 32 _, FItem.eq 33 _, FItem.eq 34 _, FItem.eq 35 _, FItem.eq 36 _, FItem.eq 37 _, FItem.eq 38 _, FItem.eq 39 _, FItem.eq 40 _, FItem.eq 41 _, FItem.eq 42 (undef), FItem.eq 43 _, FItem.eq 44 _, FItem.eq 45 _, FItem.eq 46 _, FItem.eq 47 _, FItem.eq 48 _, FItem.eq 49 _, FItem.eq 50 _, FItem.eq 51 _, FItem.eq 52 _, FItem.eq 53 _, FItem.eq 54 _, FItem.eq 55 _, FItem.eq 56 _] 43 hs hd ⟨s3, s5, s9, s10, trivial⟩
    ⟨(stp rfl fun a u hb hs hl hd K hK => by have s5 := gL hl 1; clear hd; go_simp; exact kE hK hs),
     (stp rfl fun a u hb hs hl hd K hK => by have s14 := gD hd 0; clear hd; go_simp; exact kE hK hs),
     (stp rfl fun a u hb hs hl hd K hK => by have s15 := gD hd 1; clear hd; go_simp; exact kE hK hs),
     (fun a u hb hs hl hd K hK => by have s3 := gL hl 0; have g16 := vD hd 2; clear hd; refine step_no rfl (j := 2) (d := 16) rfl rfl g16 (by decide) ?_; exact kE hK hs),
     (fun a u hb hs hl hd K hK => by have s5 := gL hl 1; have g16 := vD hd 2; clear hd; refine step_no rfl (j := 2) (d := 16) rfl rfl g16 (by decide) ?_; exact kE hK hs),
     (fun a u hb hs hl hd K hK => by have s17 := gD hd 3; have s18 := gD hd 4; have g16 := vD hd 2; clear hd; refine step_no rfl (j := 2) (d := 16) rfl rfl g16 (by decide) ?_; exact kE hK hs),
     (fun a u hb hs hl hd K hK => by have s19 := gD hd 5; have g16 := vD hd 2; clear hd; refine step_no rfl (j := 2) (d := 16) rfl rfl g16 (by decide) ?_; exact kE hK hs),
     (fun a u hb hs hl hd K hK => by have s20 := gD hd 6; have g16 := vD hd 2; clear hd; refine step_no rfl (j := 2) (d := 16) rfl rfl g16 (by decide) ?_; exact kE hK hs),
     (fun a u hb hs hl hd K hK => by have s3 := gL hl 0; have g16 := vD hd 2; clear hd; refine step_no rfl (j := 2) (d := 16) rfl rfl g16 (by decide) ?_; exact kE hK hs),
     (fun a u hb hs hl hd K hK => by have s5 := gL hl 1; have g16 := vD hd 2; clear hd; refine step_no rfl (j := 2) (d := 16) rfl rfl g16 (by decide) ?_; exact kE hK hs),
     (fun a u hb hs hl hd K hK => by have s23 := gD hd 9; have g16 := vD hd 2; clear hd; refine step_no rfl (j := 2) (d := 16) rfl rfl g16 (by decide) ?_; exact kE hK hs),
     (fun a u hb hs hl hd K hK => by have s22 := gD hd 8; have s24 := gD hd 10; have g16 := vD hd 2; clear hd; refine step_no rfl (j := 2) (d := 16) rfl rfl g16 (by decide) ?_; exact kE hK hs),
     (fun a u hb hs hl hd K hK => by have s25 := gD hd 11; have g16 := vD hd 2; clear hd; refine step_no rfl (j := 2) (d := 16) rfl rfl g16 (by decide) ?_; exact kE hK hs),
     (fun a u hb hs hl hd K hK => by have s26 := gD hd 12; have g16 := vD hd 2; clear hd; refine step_no rfl (j := 2) (d := 16) rfl rfl g16 (by decide) ?_; exact kE hK hs),
     (fun a u hb hs hl hd K hK => by have s21 := gD hd 7; have s27 := gD hd 13; have g16 := vD hd 2; clear hd; refine step_no rfl (j := 2) (d := 16) rfl rfl g16 (by decide) ?_; exact kE hK hs),
     (fun a u hb hs hl hd K hK => by have s28 := gD hd 14; have g16 := vD hd 2; clear hd; refine step_no rfl (j := 2) (d := 16) rfl rfl g16 (by decide) ?_; exact kE hK hs),
     (fun a u hb hs hl hd K hK => by have s3 := gL hl 0; have g29 := vD hd 15; clear hd; refine step_un rfl (j := 15) (d := 29) rfl rfl g29 ?_; exact kE hK hs),
     (fun a u hb hs hl hd K hK => by have s5 := gL hl 1; have g29 := vD hd 15; clear hd; refine step_un rfl (j := 15) (d := 29) rfl rfl g29 ?_; exact kE hK hs),
     (fun a u hb hs hl hd K hK => by have s30 := gD hd 16; have s31 := gD hd 17; have g29 := vD hd 15; clear hd; refine step_un rfl (j := 15) (d := 29) rfl rfl g29 ?_; exact kE hK hs),
     (fun a u hb hs hl hd K hK => by have s32 := gD hd 18; have g29 := vD hd 15; clear hd; refine step_un rfl (j := 15) (d := 29) rfl rfl g29 ?_; exact kE hK hs),
     (fun a u hb hs hl hd K hK => by have s33 := gD hd 19; have g29 := vD hd 15; clear hd; refine step_un rfl (j := 15) (d := 29) rfl rfl g29 ?_; exact kE hK hs),
     (fun a u hb hs hl hd K hK => by have s3 := gL hl 0; have g29 := vD hd 15; clear hd; refine step_un rfl (j := 15) (d := 29) rfl rfl g29 ?_; exact kE hK hs),
     (fun a u hb hs hl hd K hK => by have s5 := gL hl 1; have g29 := vD hd 15; clear hd; refine step_un rfl (j := 15) (d := 29) rfl rfl g29 ?_; exact kE hK hs),
     (fun a u hb hs hl hd K hK => by have s36 := gD hd 22; have g29 := vD hd 15; clear hd; refine step_un rfl (j := 15) (d := 29) rfl rfl g29 ?_; exact kE hK hs),
     (fun a u hb hs hl hd K hK => by have s35 := gD hd 21; have s37 := gD hd 23; have g29 := vD hd 15; clear hd; refine step_un rfl (j := 15) (d := 29) rfl rfl g29 ?_; exact kE hK hs),
     (fun a u hb hs hl hd K hK => by have s38 := gD hd 24; have g29 := vD hd 15; clear hd; refine step_un rfl (j := 15) (d := 29) rfl rfl g29 ?_; exact kE hK hs),
     (fun a u hb hs hl hd K hK => by have s39 := gD hd 25; have g29 := vD hd 15; clear hd; refine step_un rfl (j := 15) (d := 29) rfl rfl g29 ?_; exact kE hK hs),
     (fun a u hb hs hl hd K hK => by have s34 := gD hd 20; have s40 := gD hd 26; have g29 := vD hd 15; clear hd; refine step_un rfl (j := 15) (d := 29) rfl rfl g29 ?_; exact kE hK hs),
     (fun a u hb hs hl hd K hK => by have s41 := gD hd 27; have g29 := vD hd 15; clear hd; refine step_un rfl (j := 15) (d := 29) rfl rfl g29 ?_; exact kE hK hs),
     (fun a u hb hs hl hd K hK => by have s3 := gL hl 0; have g42 := vD hd 28; clear hd; refine step_un rfl (j := 28) (d := 42) rfl rfl g42 ?_; exact kE hK hs),
     (fun a u hb hs hl hd K hK => by have s5 := gL hl 1; have g42 := vD hd 28; clear hd; refine step_un rfl (j := 28) (d := 42) rfl rfl g42 ?_; exact kE hK hs),
     (fun a u hb hs hl hd K hK => by have s43 := gD hd 29; have s44 := gD hd 30; have g42 := vD hd 28; clear hd; refine step_un rfl (j := 28) (d := 42) rfl rfl g42 ?_; exact kE hK hs),
     (fun a u hb hs hl hd K hK => by have s45 := gD hd 31; have g42 := vD hd 28; clear hd; refine step_un rfl (j := 28) (d := 42) rfl rfl g42 ?_; exact kE hK hs),
     (fun a u hb hs hl hd K hK => by have s46 := gD hd 32; have g42 := vD hd 28; clear hd; refine step_un rfl (j := 28) (d := 42) rfl rfl g42 ?_; exact kE hK hs),
     (fun a u hb hs hl hd K hK => by have s3 := gL hl 0; have g42 := vD hd 28; clear hd; refine step_un rfl (j := 28) (d := 42) rfl rfl g42 ?_; exact kE hK hs),
     (fun a u hb hs hl hd K hK => by have s5 := gL hl 1; have g42 := vD hd 28; clear hd; refine step_un rfl (j := 28) (d := 42) rfl rfl g42 ?_; exact kE hK hs),
     (fun a u hb hs hl hd K hK => by have s49 := gD hd 35; have g42 := vD hd 28; clear hd; refine step_un rfl (j := 28) (d := 42) rfl rfl g42 ?_; exact kE hK hs),
     (fun a u hb hs hl hd K hK => by have s48 := gD hd 34; have s50 := gD hd 36; have g42 := vD hd 28; clear hd; refine step_un rfl (j := 28) (d := 42) rfl rfl g42 ?_; exact kE hK hs),
     (fun a u hb hs hl hd K hK => by have s51 := gD hd 37; have g42 := vD hd 28; clear hd; refine step_un rfl (j := 28) (d := 42) rfl rfl g42 ?_; exact kE hK hs),
     (fun a u hb hs hl hd K hK => by have s52 := gD hd 38; have g42 := vD hd 28; clear hd; refine step_un rfl (j := 28) (d := 42) rfl rfl g42 ?_; exact kE hK hs),
     (fun a u hb hs hl hd K hK => by have s47 := gD hd 33; have s53 := gD hd 39; have g42 := vD hd 28; clear hd; refine step_un rfl (j := 28) (d := 42) rfl rfl g42 ?_; exact kE hK hs),
     (fun a u hb hs hl hd K hK => by have s42 := gD hd 28; have s54 := gD hd 40; have g29 := vD hd 15; clear hd; refine step_un rfl (j := 15) (d := 29) rfl rfl g29 ?_; exact kE hK hs),
     (fun a u hb hs hl hd K hK => by have s29 := gD hd 15; have s55 := gD hd 41; have g16 := vD hd 2; clear hd; refine step_no rfl (j := 2) (d := 16) rfl rfl g16 (by decide) ?_; exact kE hK hs),
     trivial⟩ ?_
   clear hs hd s3 s5 s9 s10
   intro a w hb hs hd zl hh
   replace zl := lH hh 2 zl
   replace zl := lH hh 42 zl
   clear hh
   replace hsb := hsb.after hb
   replace hB := bz_then hB hb
   clear hb
   show wpList _ _ _ [_] _ _
   refine tail_op rfl (fun K hK => ?_)
   have q16 := gL zl 1
   have q56 := gL zl 0
   go_simp
   clear q16 q56
   refine hK _ _ (tP hs hd zl ?_)
   clear hK K hs hd zl
   intro a hs hd zl
   refine wp_cond_false (vL zl 0) ?_
   refine wp_exit ?_
   repeat refine then_exit ?_
   refine inBlock_exit ?_
   have ew : IntKind.i64.wrap ((i : Int) + 1) = ((i + 1 : Nat) : Int) := by rw [IntWalk.i64_in _ (by omega)]; omega
   refine wp_region_list ?_
   show wpList _ _ _ [_, _] _ _
   refine tail_op rfl (fun K hK => ?_)
   have q10 := gL zl 6
   go_simp
   clear q10
   refine hK _ _ (tP hs hd zl ?_)
   clear hK K hs hd zl
   intro a hs hd zl
   refine tail_op rfl (fun K hK => ?_)
   have q76 := gL zl 0
   go_simp
   clear q76
   refine hK _ _ ?_
   clear hK K
   obtain ⟨s76, s57, -, -, s3, s5, s9, s10, -⟩ := zl
   refine act_put (d := 10) _ hs hd (by decide) [(3, _), (5, _), (9, _), (57, _), (76, _)] ⟨s3, s5, s9, s57, s76, trivial⟩ rfl ?_
   clear hs hd s3 s5 s9 s10 s57 s76
   intro a hs hd zl
   obtain ⟨s10, s3, -, s9, -, -, -⟩ := zl
   refine ⟨⟨i + 1, S', hs, hd, ⟨s3, s9, s10, trivial⟩, hlt, hB, hp, hsb, HSZ.out⟩, ?_⟩
   rw [s10]
   simp [intOf]
   omega
  obtain ⟨m, hkm⟩ : ∃ m, k = m + 1 := ⟨k - 1, by omega⟩
  have HKM := Is.hid hkm
  have hkp : 0 < k := by omega
  clear hkm hk0
  obtain ⟨sk, hsk⟩ : ∃ s, S'[k]? = some s := ⟨S'[k]'(by omega), List.getElem?_eq_getElem (by omega)⟩
  obtain ⟨sm, hsm⟩ : ∃ s, S'[m]? = some s := ⟨S'[m]'(by have := HKM.out; omega), List.getElem?_eq_getElem (by have := HKM.out; omega)⟩
  have hSk := Is.hid hsk
  have hSm := Is.hid hsm
  have ck0 : w.cell? ⟨g, k * 4, none⟩ = some (.string sk.a) := hsb.cell hsk (j := 0) rfl
  have ck2 : w.cell? ⟨g, k * 4 + 2, none⟩ = some (.int .i64 sk.p) := hsb.cell hsk (j := 2) rfl
  have cm0 : w.cell? ⟨g, m * 4, none⟩ = some (.string sm.a) := hsb.cell hsm (j := 0) rfl
  have cm2 : w.cell? ⟨g, m * 4 + 2, none⟩ = some (.int .i64 sm.p) := hsb.cell hsm (j := 2) rfl
  clear hsk hsm
  by_cases h1 : sm.p < sk.p
  ·have e1 : decide (sm.p < sk.p) = true := decide_eq_true h1
   refine wp_seq ?_
   refine wp_seq ?_
   have e0 : decide (0 < k) = true := decide_eq_true hkp
   have e0' : decide ((0 : Int) < (k : Int)) = true := decide_eq_true (by omega)
   have hkn : k < n := by omega
   have hmn : m < n := by have := HKM.out; omega
   have hk1 : (1 : Int) ≤ (k : Int) := by omega
   have ek : IntKind.i64.wrap ((k : Int) - 1) = (m : Int) := by rw [IntWalk.i64_in _ (by have := HKM.out; omega)]; have := HKM.out; omega
   refine fl2 (F := [(3, _), (5, _), (9, _), (10, _)]) [FItem.eq 14 _, FItem.eq 15 (.bool true), FItem.eq 16 (.bool true), FItem.eq 17 _, FItem.eq 18 _, FItem.eq 19 _, FItem.eq 20 _, FItem.eq 21 _, FItem.eq 22 _, FItem.eq 23 _, FItem.eq 24 _, FItem.eq 25 _, FItem.eq 26 _, FItem.eq 27 _, FItem.eq 28 (.bool true), FItem.eq 29 (.bool true), FItem.eq 30 _, FItem.eq 31 _, FItem.eq 32 _, FItem.eq 33 _, FItem.eq 34 _, FItem.eq 35 _, FItem.eq 36 _, FItem.eq 37 _, FItem.eq 38 _, FItem.eq 39 _, FItem.eq 40 _, FItem.eq 41 _, FItem.eq 42 (undef), FItem.eq 43 _, FItem.eq 44 _, FItem.eq 45 _, FItem.eq 46 _, FItem.eq 47 _, FItem.eq 48 _, FItem.eq 49 _, FItem.eq 50 _, FItem.eq 51 _, FItem.eq 52 _, FItem.eq 53 _, FItem.eq 54 _, FItem.eq 55 _, FItem.eq 56 _] 43 hs hd ⟨s3, s5, s9, s10, trivial⟩
    ⟨(stp rfl fun a u hb hs hl hd K hK => by have s5 := gL hl 1; clear hd; go_simp; exact kE hK hs),
     (stp rfl fun a u hb hs hl hd K hK => by have s14 := gD hd 0; clear hd; go_simp; exact kE hK hs),
     (stp rfl fun a u hb hs hl hd K hK => by have s15 := gD hd 1; clear hd; go_simp; exact kE hK hs),
     (fun a u hb hs hl hd K hK => by have s3 := gL hl 0; have g16 := vD hd 2; clear hd; refine step_yes rfl (j := 2) (d := 16) rfl rfl g16 ?_; go_simp; exact kE hK hs),
     (fun a u hb hs hl hd K hK => by have s5 := gL hl 1; have g16 := vD hd 2; clear hd; refine step_yes rfl (j := 2) (d := 16) rfl rfl g16 ?_; go_simp; exact kE hK hs),
     (fun a u hb hs hl hd K hK => by have s17 := gD hd 3; have s18 := gD hd 4; have g16 := vD hd 2; clear hd; refine step_yes rfl (j := 2) (d := 16) rfl rfl g16 ?_; go_simp; exact kE hK hs),
     (fun a u hb hs hl hd K hK => by have s19 := gD hd 5; have g16 := vD hd 2; clear hd; refine step_yes rfl (j := 2) (d := 16) rfl rfl g16 ?_; go_simp; exact kE hK hs),
     (fun a u hb hs hl hd K hK => by have s20 := gD hd 6; have ck0 := cell_up hb ck0; have ck2 := cell_up hb ck2; have cm0 := cell_up hb cm0; have cm2 := cell_up hb cm2; have g16 := vD hd 2; clear hd; refine step_yes rfl (j := 2) (d := 16) rfl rfl g16 ?_; go_simp; exact kE hK hs),
     (fun a u hb hs hl hd K hK => by have s3 := gL hl 0; have g16 := vD hd 2; clear hd; refine step_yes rfl (j := 2) (d := 16) rfl rfl g16 ?_; go_simp; exact kE hK hs),
     (fun a u hb hs hl hd K hK => by have s5 := gL hl 1; have g16 := vD hd 2; clear hd; refine step_yes rfl (j := 2) (d := 16) rfl rfl g16 ?_; go_simp; exact kE hK hs),
     (fun a u hb hs hl hd K hK => by have s23 := gD hd 9; have g16 := vD hd 2; clear hd; refine step_yes rfl (j := 2) (d := 16) rfl rfl g16 ?_; go_simp; exact kE hK hs),
     (fun a u hb hs hl hd K hK => by have s22 := gD hd 8; have s24 := gD hd 10; have g16 := vD hd 2; clear hd; refine step_yes rfl (j := 2) (d := 16) rfl rfl g16 ?_; go_simp; exact kE hK hs),
     (fun a u hb hs hl hd K hK => by have s25 := gD hd 11; have g16 := vD hd 2; clear hd; refine step_yes rfl (j := 2) (d := 16) rfl rfl g16 ?_; go_simp; exact kE hK hs),
     (fun a u hb hs hl hd K hK => by have s26 := gD hd 12; have ck0 := cell_up hb ck0; have ck2 := cell_up hb ck2; have cm0 := cell_up hb cm0; have cm2 := cell_up hb cm2; have g16 := vD hd 2; clear hd; refine step_yes rfl (j := 2) (d := 16) rfl rfl g16 ?_; go_simp; exact kE hK hs),
     (fun a u hb hs hl hd K hK => by have s21 := gD hd 7; have s27 := gD hd 13; have g16 := vD hd 2; clear hd; refine step_yes rfl (j := 2) (d := 16) rfl rfl g16 ?_; go_simp; exact kE hK hs),
     (fun a u hb hs hl hd K hK => by have s28 := gD hd 14; have g16 := vD hd 2; clear hd; refine step_yes rfl (j := 2) (d := 16) rfl rfl g16 ?_; go_simp; exact kE hK hs),
     (fun a u hb hs hl hd K hK => by have s3 := gL hl 0; have g29 := vD hd 15; clear hd; refine step_no rfl (j := 15) (d := 29) rfl rfl g29 (by decide) ?_; exact kE hK hs),
     (fun a u hb hs hl hd K hK => by have s5 := gL hl 1; have g29 := vD hd 15; clear hd; refine step_no rfl (j := 15) (d := 29) rfl rfl g29 (by decide) ?_; exact kE hK hs),
     (fun a u hb hs hl hd K hK => by have s30 := gD hd 16; have s31 := gD hd 17; have g29 := vD hd 15; clear hd; refine step_no rfl (j := 15) (d := 29) rfl rfl g29 (by decide) ?_; exact kE hK hs),
     (fun a u hb hs hl hd K hK => by have s32 := gD hd 18; have g29 := vD hd 15; clear hd; refine step_no rfl (j := 15) (d := 29) rfl rfl g29 (by decide) ?_; exact kE hK hs),
     (fun a u hb hs hl hd K hK => by have s33 := gD hd 19; have ck0 := cell_up hb ck0; have ck2 := cell_up hb ck2; have cm0 := cell_up hb cm0; have cm2 := cell_up hb cm2; have g29 := vD hd 15; clear hd; refine step_no rfl (j := 15) (d := 29) rfl rfl g29 (by decide) ?_; exact kE hK hs),
     (fun a u hb hs hl hd K hK => by have s3 := gL hl 0; have g29 := vD hd 15; clear hd; refine step_no rfl (j := 15) (d := 29) rfl rfl g29 (by decide) ?_; exact kE hK hs),
     (fun a u hb hs hl hd K hK => by have s5 := gL hl 1; have g29 := vD hd 15; clear hd; refine step_no rfl (j := 15) (d := 29) rfl rfl g29 (by decide) ?_; exact kE hK hs),
     (fun a u hb hs hl hd K hK => by have s36 := gD hd 22; have g29 := vD hd 15; clear hd; refine step_no rfl (j := 15) (d := 29) rfl rfl g29 (by decide) ?_; exact kE hK hs),
     (fun a u hb hs hl hd K hK => by have s35 := gD hd 21; have s37 := gD hd 23; have g29 := vD hd 15; clear hd; refine step_no rfl (j := 15) (d := 29) rfl rfl g29 (by decide) ?_; exact kE hK hs),
     (fun a u hb hs hl hd K hK => by have s38 := gD hd 24; have g29 := vD hd 15; clear hd; refine step_no rfl (j := 15) (d := 29) rfl rfl g29 (by decide) ?_; exact kE hK hs),
     (fun a u hb hs hl hd K hK => by have s39 := gD hd 25; have ck0 := cell_up hb ck0; have ck2 := cell_up hb ck2; have cm0 := cell_up hb cm0; have cm2 := cell_up hb cm2; have g29 := vD hd 15; clear hd; refine step_no rfl (j := 15) (d := 29) rfl rfl g29 (by decide) ?_; exact kE hK hs),
     (fun a u hb hs hl hd K hK => by have s34 := gD hd 20; have s40 := gD hd 26; have g29 := vD hd 15; clear hd; refine step_no rfl (j := 15) (d := 29) rfl rfl g29 (by decide) ?_; exact kE hK hs),
     (fun a u hb hs hl hd K hK => by have s41 := gD hd 27; have g29 := vD hd 15; clear hd; refine step_no rfl (j := 15) (d := 29) rfl rfl g29 (by decide) ?_; exact kE hK hs),
     (fun a u hb hs hl hd K hK => by have s3 := gL hl 0; have g42 := vD hd 28; clear hd; refine step_un rfl (j := 28) (d := 42) rfl rfl g42 ?_; exact kE hK hs),
     (fun a u hb hs hl hd K hK => by have s5 := gL hl 1; have g42 := vD hd 28; clear hd; refine step_un rfl (j := 28) (d := 42) rfl rfl g42 ?_; exact kE hK hs),
     (fun a u hb hs hl hd K hK => by have s43 := gD hd 29; have s44 := gD hd 30; have g42 := vD hd 28; clear hd; refine step_un rfl (j := 28) (d := 42) rfl rfl g42 ?_; exact kE hK hs),
     (fun a u hb hs hl hd K hK => by have s45 := gD hd 31; have g42 := vD hd 28; clear hd; refine step_un rfl (j := 28) (d := 42) rfl rfl g42 ?_; exact kE hK hs),
     (fun a u hb hs hl hd K hK => by have s46 := gD hd 32; have ck0 := cell_up hb ck0; have ck2 := cell_up hb ck2; have cm0 := cell_up hb cm0; have cm2 := cell_up hb cm2; have g42 := vD hd 28; clear hd; refine step_un rfl (j := 28) (d := 42) rfl rfl g42 ?_; exact kE hK hs),
     (fun a u hb hs hl hd K hK => by have s3 := gL hl 0; have g42 := vD hd 28; clear hd; refine step_un rfl (j := 28) (d := 42) rfl rfl g42 ?_; exact kE hK hs),
     (fun a u hb hs hl hd K hK => by have s5 := gL hl 1; have g42 := vD hd 28; clear hd; refine step_un rfl (j := 28) (d := 42) rfl rfl g42 ?_; exact kE hK hs),
     (fun a u hb hs hl hd K hK => by have s49 := gD hd 35; have g42 := vD hd 28; clear hd; refine step_un rfl (j := 28) (d := 42) rfl rfl g42 ?_; exact kE hK hs),
     (fun a u hb hs hl hd K hK => by have s48 := gD hd 34; have s50 := gD hd 36; have g42 := vD hd 28; clear hd; refine step_un rfl (j := 28) (d := 42) rfl rfl g42 ?_; exact kE hK hs),
     (fun a u hb hs hl hd K hK => by have s51 := gD hd 37; have g42 := vD hd 28; clear hd; refine step_un rfl (j := 28) (d := 42) rfl rfl g42 ?_; exact kE hK hs),
     (fun a u hb hs hl hd K hK => by have s52 := gD hd 38; have ck0 := cell_up hb ck0; have ck2 := cell_up hb ck2; have cm0 := cell_up hb cm0; have cm2 := cell_up hb cm2; have g42 := vD hd 28; clear hd; refine step_un rfl (j := 28) (d := 42) rfl rfl g42 ?_; exact kE hK hs),
     (fun a u hb hs hl hd K hK => by have s47 := gD hd 33; have s53 := gD hd 39; have g42 := vD hd 28; clear hd; refine step_un rfl (j := 28) (d := 42) rfl rfl g42 ?_; exact kE hK hs),
     (fun a u hb hs hl hd K hK => by have s42 := gD hd 28; have s54 := gD hd 40; have g29 := vD hd 15; clear hd; refine step_no rfl (j := 15) (d := 29) rfl rfl g29 (by decide) ?_; exact kE hK hs),
     (fun a u hb hs hl hd K hK => by have s29 := gD hd 15; have s55 := gD hd 41; have g16 := vD hd 2; clear hd; refine step_yes rfl (j := 2) (d := 16) rfl rfl g16 ?_; go_simp; exact kE hK hs),
     trivial⟩ ?_
   clear hs hd s3 s5 s9 s10
   intro a w hb hs hd zl hh
   replace zl := lH hh 2 zl
   replace zl := lH hh 42 zl
   clear hh
   replace hsb := hsb.after hb
   replace ck0 := cell_up hb ck0
   replace ck2 := cell_up hb ck2
   replace cm0 := cell_up hb cm0
   replace cm2 := cell_up hb cm2
   replace hB := bz_then hB hb
   clear hb
   show wpList _ _ _ [_] _ _
   refine tail_op rfl (fun K hK => ?_)
   have q16 := gL zl 1
   have q56 := gL zl 0
   go_simp
   clear q16 q56
   refine hK _ _ (tP hs hd zl ?_)
   clear hK K hs hd zl
   intro a hs hd zl
   clear e0 e0' ek ck0 ck2 cm0 cm2 hkn hmn hk1
   refine wp_cond_true (vL zl 0) ?_
   refine wp_skip ?_
   refine wp_seq ?_
   refine wp_block ?_
   have hkn : k < n := by omega
   have hmn : m < n := by have := HKM.out; omega
   have hk_ : k < S'.length := by omega
   have hm_ : m < S'.length := by omega
   have ek : IntKind.i64.wrap ((k : Int) - 1) = (m : Int) := by rw [IntWalk.i64_in _ (by have := HKM.out; omega)]; have := HKM.out; omega
   obtain ⟨s57, -, -, s3, s5, s9, s10, -⟩ := zl
   refine wp_flow4_use [(3, _), (5, _), (9, _), (10, _), (57, _)]
    [some (60, _), some (61, _), some (62, _), some (63, _), some (64, _), some (65, _), some (66, _), some (67, _), some (68, _), some (69, .agg sm.cells.toArray), some (70, _), some (71, _), some (72, _), some (73, .agg sk.cells.toArray), some (74, _), none, some (75, _), none]
    [15, 17] [(none, some 0), (none, some 0), (none, some 1), (none, some 1), (none, some 1), (none, some 0), (none, some 0), (none, some 0), (none, some 0), (none, some 0), (none, some 1), (none, some 1), (none, some 1), (none, some 0), (none, some 0), (some 0, some 1), (none, some 1), (some 1, none)]
    (fun c w => Below w0.heap.size w0 w ∧ SB w g (swp S' k m sk sm c) rest)
    78 (by kernel_rfl) (by kernel_rfl) (by kernel_rfl) (by kernel_rfl) (by kernel_rfl) hs hd ⟨s3, s5, s9, s10, s57, trivial⟩ ⟨hB.drew, hsb⟩
    ⟨(fun a u c hT hr hbd hs hl hd K hK => by
      obtain ⟨l3, -, -, -, -, -⟩ := hl
      have s3 := gd l3
      clear hd
      have hcb := hbd 0 rfl
      refine step_plain rfl ?_
      go_simp; exact hK _ _ (s_put hs (by decide)) hT),
     (fun a u c hT hr hbd hs hl hd K hK => by
      obtain ⟨-, l5, -, -, -, -⟩ := hl
      have s5 := gd l5
      clear hd
      have hcb := hbd 0 rfl
      refine step_plain rfl ?_
      go_simp; exact hK _ _ (s_put hs (by decide)) hT),
     (fun a u c hT hr hbd hs hl hd K hK => by
      obtain ⟨l3, -, -, -, -, -⟩ := hl
      have s3 := gd l3
      clear hd
      have hcb := hbd 1 rfl
      refine step_plain rfl ?_
      go_simp; exact hK _ _ (s_put hs (by decide)) hT),
     (fun a u c hT hr hbd hs hl hd K hK => by
      obtain ⟨-, l5, -, -, -, -⟩ := hl
      have s5 := gd l5
      clear hd
      have hcb := hbd 1 rfl
      refine step_plain rfl ?_
      go_simp; exact hK _ _ (s_put hs (by decide)) hT),
     (fun a u c hT hr hbd hs hl hd K hK => by
      have s63 := gd (sdep_get hd 3 (by kernel_rfl) rfl)
      clear hd
      have hcb := hbd 1 rfl
      refine step_plain rfl ?_
      go_simp; exact hK _ _ (s_put hs (by decide)) hT),
     (fun a u c hT hr hbd hs hl hd K hK => by
      obtain ⟨l3, -, -, -, -, -⟩ := hl
      have s3 := gd l3
      clear hd
      have hcb := hbd 0 rfl
      refine step_plain rfl ?_
      go_simp; exact hK _ _ (s_put hs (by decide)) hT),
     (fun a u c hT hr hbd hs hl hd K hK => by
      obtain ⟨-, l5, -, -, -, -⟩ := hl
      have s5 := gd l5
      clear hd
      have hcb := hbd 0 rfl
      refine step_plain rfl ?_
      go_simp; exact hK _ _ (s_put hs (by decide)) hT),
     (fun a u c hT hr hbd hs hl hd K hK => by
      have s66 := gd (sdep_get hd 6 (by kernel_rfl) rfl)
      clear hd
      have hcb := hbd 0 rfl
      refine step_plain rfl ?_
      go_simp; exact hK _ _ (s_put hs (by decide)) hT),
     (fun a u c hT hr hbd hs hl hd K hK => by
      have s65 := gd (sdep_get hd 5 (by kernel_rfl) rfl)
      have s67 := gd (sdep_get hd 7 (by kernel_rfl) rfl)
      clear hd
      have hcb := hbd 0 rfl
      refine step_plain rfl ?_
      go_simp; exact hK _ _ (s_put hs (by decide)) hT),
     (fun a u c hT hr hbd hs hl hd K hK => by
      have s68 := gd (sdep_get hd 8 (by kernel_rfl) rfl)
      clear hd
      have hcb := hbd 0 rfl
      refine step_plain rfl ?_
      obtain rfl : c = 0 := by omega
      refine op_load_cells 50 (.tmp 68) rfl g (m * 4) (gu s68) sm.cells _ (fun j v h => SB.cell hT.2 hSm.out h) rfl rfl (by kernel_rfl) ?_
      exact hK _ _ (s_put hs (by decide)) hT),
     (fun a u c hT hr hbd hs hl hd K hK => by
      obtain ⟨l3, -, -, -, -, -⟩ := hl
      have s3 := gd l3
      clear hd
      have hcb := hbd 1 rfl
      refine step_plain rfl ?_
      go_simp; exact hK _ _ (s_put hs (by decide)) hT),
     (fun a u c hT hr hbd hs hl hd K hK => by
      obtain ⟨-, l5, -, -, -, -⟩ := hl
      have s5 := gd l5
      clear hd
      have hcb := hbd 1 rfl
      refine step_plain rfl ?_
      go_simp; exact hK _ _ (s_put hs (by decide)) hT),
     (fun a u c hT hr hbd hs hl hd K hK => by
      have s70 := gd (sdep_get hd 10 (by kernel_rfl) rfl)
      have s71 := gd (sdep_get hd 11 (by kernel_rfl) rfl)
      clear hd
      have hcb := hbd 1 rfl
      refine step_plain rfl ?_
      go_simp; exact hK _ _ (s_put hs (by decide)) hT),
     (fun a u c hT hr hbd hs hl hd K hK => by
      have s72 := gd (sdep_get hd 12 (by kernel_rfl) rfl)
      clear hd
      have hcb := hbd 0 rfl
      refine step_plain rfl ?_
      obtain rfl : c = 0 := by omega
      refine op_load_cells 50 (.tmp 72) rfl g (k * 4) (gu s72) sk.cells _ (fun j v h => SB.cell hT.2 hSk.out h) rfl rfl (by kernel_rfl) ?_
      exact hK _ _ (s_put hs (by decide)) hT),
     (fun a u c hT hr hbd hs hl hd K hK => by
      have s60 := gd (sdep_get hd 0 (by kernel_rfl) rfl)
      have s61 := gd (sdep_get hd 1 (by kernel_rfl) rfl)
      clear hd
      have hcb := hbd 0 rfl
      refine step_plain rfl ?_
      go_simp; exact hK _ _ (s_put hs (by decide)) hT),
     (fun a u c hT hr hbd hs hl hd K hK => by
      have s69 := gd (sdep_get hd 9 (by kernel_rfl) rfl)
      have s74 := gd (sdep_get hd 14 (by kernel_rfl) rfl)
      clear hd
      obtain rfl := hr 0 rfl
      refine step_plain rfl ?_
      refine op_store_part 50 (.tmp 74) (.tmp 69) rfl g (k * 4) (gu s74) sm.cells.toArray (gu s69) 50 _ hT.2 (SBl_room (S') rest k (by simpa using hk_)) (by kernel_rfl) (seat_one _) ?_
      rw [SBl_set _ _ _ _ (by simpa [swp] using hk_)]
      exact hK undef _ trivial ⟨below_setRow hT.1 hg0 _, Blk.setRow hT.2 _⟩),
     (fun a u c hT hr hbd hs hl hd K hK => by
      have s62 := gd (sdep_get hd 2 (by kernel_rfl) rfl)
      have s64 := gd (sdep_get hd 4 (by kernel_rfl) rfl)
      clear hd
      have hcb := hbd 1 rfl
      refine step_plain rfl ?_
      go_simp; exact hK _ _ (s_put hs (by decide)) hT),
     (fun a u c hT hr hbd hs hl hd K hK => by
      have s73 := gd (sdep_get hd 13 (by kernel_rfl) rfl)
      have s75 := gd (sdep_get hd 16 (by kernel_rfl) rfl)
      clear hd
      obtain rfl := hr 1 rfl
      refine step_plain rfl ?_
      refine op_store_part 50 (.tmp 75) (.tmp 73) rfl g (m * 4) (gu s75) sk.cells.toArray (gu s73) 50 _ hT.2 (SBl_room (S'.set k sm) rest m (by simpa using hm_)) (by kernel_rfl) (seat_one _) ?_
      rw [SBl_set _ _ _ _ (by simpa [swp] using hm_)]
      exact hK undef _ trivial ⟨below_setRow hT.1 hg0 _, Blk.setRow hT.2 _⟩),
     trivial⟩ ?_
   clear hs hd s3 s5 s9 s10 s57
   intro a w hT hs hd hl hh
   obtain ⟨s3, s5, s9, s10, -, -⟩ := hl
   clear hh
   clear hB hsb
   obtain ⟨hB, hsb⟩ := hT
   replace hsb : SB w g ((S'.set k sm).set m sk) rest := hsb
   refine wp_region_list ?_
   show wpList _ _ _ [_, _, _] _ _
   refine tail_op rfl (fun K hK => ?_)
   have q5 := gd s5
   go_simp
   clear q5
   refine hK _ _ ?_
   clear hK K
   refine act_put (d := 58) _ hs hd (by decide) [(3, _), (5, _), (9, _), (10, _)] ⟨s3, s5, s9, s10, trivial⟩ rfl ?_
   clear hs hd s3 s5 s9 s10
   intro a hs hd zl
   refine tail_op rfl (fun K hK => ?_)
   have q58 := gL zl 0
   go_simp
   clear q58
   refine hK _ _ (tP hs hd zl ?_)
   clear hK K hs hd zl
   intro a hs hd zl
   refine tail_op rfl (fun K hK => ?_)
   have q59 := gL zl 0
   go_simp
   clear q59
   refine hK _ _ ?_
   clear hK K
   obtain ⟨s59, s58, s3, s5, s9, s10, -⟩ := zl
   refine act_put (d := 5) _ hs hd (by decide) [(3, _), (9, _), (10, _), (58, _), (59, _)] ⟨s3, s9, s10, s58, s59, trivial⟩ rfl ?_
   clear hs hd s3 s5 s9 s10 s58 s59
   intro a hs hd zl
   have hpm : List.Perm ((S'.set k sm).set m sk) S' := by
    have := @List.set_set_perm _ S' k m hk_ hm_
    rw [(List.getElem?_eq_some_iff.1 hSk.out).2, (List.getElem?_eq_some_iff.1 hSm.out).2] at this
    exact this
   obtain ⟨s5, s3, s9, s10, -, -, -⟩ := zl
   refine ⟨⟨m, (S'.set k sm).set m sk, hs, hd, ⟨s3, s9, s10, s5, trivial⟩, (by have := HKM.out; omega), hB, hpm.trans hp, hsb, (by rw [SBl_size_set, SBl_size_set]; exact HSZ.out)⟩, ?_⟩
   rw [s5]
   simp [intOf]
   have := HKM.out
   omega
  have e1 : decide (sm.p < sk.p) = false := decide_eq_false h1
  by_cases h2 : sk.p = sm.p
  ·have e2 : (sk.p == sm.p) = true := by rw [beq_iff_eq]; exact h2
   clear h2
   refine wp_seq ?_
   refine wp_seq ?_
   have e0 : decide (0 < k) = true := decide_eq_true hkp
   have e0' : decide ((0 : Int) < (k : Int)) = true := decide_eq_true (by omega)
   have hkn : k < n := by omega
   have hmn : m < n := by have := HKM.out; omega
   have hk1 : (1 : Int) ≤ (k : Int) := by omega
   have ek : IntKind.i64.wrap ((k : Int) - 1) = (m : Int) := by rw [IntWalk.i64_in _ (by have := HKM.out; omega)]; have := HKM.out; omega
   refine fl2 (F := [(3, _), (5, _), (9, _), (10, _)]) [FItem.eq 14 _, FItem.eq 15 (.bool true), FItem.eq 16 (.bool true), FItem.eq 17 _, FItem.eq 18 _, FItem.eq 19 _, FItem.eq 20 _, FItem.eq 21 _, FItem.eq 22 _, FItem.eq 23 _, FItem.eq 24 _, FItem.eq 25 _, FItem.eq 26 _, FItem.eq 27 _, FItem.eq 28 (.bool false), FItem.eq 29 (.bool false), FItem.eq 30 _, FItem.eq 31 _, FItem.eq 32 _, FItem.eq 33 _, FItem.eq 34 _, FItem.eq 35 _, FItem.eq 36 _, FItem.eq 37 _, FItem.eq 38 _, FItem.eq 39 _, FItem.eq 40 _, FItem.eq 41 (.bool true), FItem.eq 42 (.bool true), FItem.eq 43 _, FItem.eq 44 _, FItem.eq 45 _, FItem.eq 46 _, FItem.eq 47 _, FItem.eq 48 _, FItem.eq 49 _, FItem.eq 50 _, FItem.eq 51 _, FItem.eq 52 _, FItem.eq 53 _, FItem.eq 54 _, FItem.eq 55 _, FItem.eq 56 _] 43 hs hd ⟨s3, s5, s9, s10, trivial⟩
    ⟨(stp rfl fun a u hb hs hl hd K hK => by have s5 := gL hl 1; clear hd; go_simp; exact kE hK hs),
     (stp rfl fun a u hb hs hl hd K hK => by have s14 := gD hd 0; clear hd; go_simp; exact kE hK hs),
     (stp rfl fun a u hb hs hl hd K hK => by have s15 := gD hd 1; clear hd; go_simp; exact kE hK hs),
     (fun a u hb hs hl hd K hK => by have s3 := gL hl 0; have g16 := vD hd 2; clear hd; refine step_yes rfl (j := 2) (d := 16) rfl rfl g16 ?_; go_simp; exact kE hK hs),
     (fun a u hb hs hl hd K hK => by have s5 := gL hl 1; have g16 := vD hd 2; clear hd; refine step_yes rfl (j := 2) (d := 16) rfl rfl g16 ?_; go_simp; exact kE hK hs),
     (fun a u hb hs hl hd K hK => by have s17 := gD hd 3; have s18 := gD hd 4; have g16 := vD hd 2; clear hd; refine step_yes rfl (j := 2) (d := 16) rfl rfl g16 ?_; go_simp; exact kE hK hs),
     (fun a u hb hs hl hd K hK => by have s19 := gD hd 5; have g16 := vD hd 2; clear hd; refine step_yes rfl (j := 2) (d := 16) rfl rfl g16 ?_; go_simp; exact kE hK hs),
     (fun a u hb hs hl hd K hK => by have s20 := gD hd 6; have ck0 := cell_up hb ck0; have ck2 := cell_up hb ck2; have cm0 := cell_up hb cm0; have cm2 := cell_up hb cm2; have g16 := vD hd 2; clear hd; refine step_yes rfl (j := 2) (d := 16) rfl rfl g16 ?_; go_simp; exact kE hK hs),
     (fun a u hb hs hl hd K hK => by have s3 := gL hl 0; have g16 := vD hd 2; clear hd; refine step_yes rfl (j := 2) (d := 16) rfl rfl g16 ?_; go_simp; exact kE hK hs),
     (fun a u hb hs hl hd K hK => by have s5 := gL hl 1; have g16 := vD hd 2; clear hd; refine step_yes rfl (j := 2) (d := 16) rfl rfl g16 ?_; go_simp; exact kE hK hs),
     (fun a u hb hs hl hd K hK => by have s23 := gD hd 9; have g16 := vD hd 2; clear hd; refine step_yes rfl (j := 2) (d := 16) rfl rfl g16 ?_; go_simp; exact kE hK hs),
     (fun a u hb hs hl hd K hK => by have s22 := gD hd 8; have s24 := gD hd 10; have g16 := vD hd 2; clear hd; refine step_yes rfl (j := 2) (d := 16) rfl rfl g16 ?_; go_simp; exact kE hK hs),
     (fun a u hb hs hl hd K hK => by have s25 := gD hd 11; have g16 := vD hd 2; clear hd; refine step_yes rfl (j := 2) (d := 16) rfl rfl g16 ?_; go_simp; exact kE hK hs),
     (fun a u hb hs hl hd K hK => by have s26 := gD hd 12; have ck0 := cell_up hb ck0; have ck2 := cell_up hb ck2; have cm0 := cell_up hb cm0; have cm2 := cell_up hb cm2; have g16 := vD hd 2; clear hd; refine step_yes rfl (j := 2) (d := 16) rfl rfl g16 ?_; go_simp; exact kE hK hs),
     (fun a u hb hs hl hd K hK => by have s21 := gD hd 7; have s27 := gD hd 13; have g16 := vD hd 2; clear hd; refine step_yes rfl (j := 2) (d := 16) rfl rfl g16 ?_; go_simp; exact kE hK hs),
     (fun a u hb hs hl hd K hK => by have s28 := gD hd 14; have g16 := vD hd 2; clear hd; refine step_yes rfl (j := 2) (d := 16) rfl rfl g16 ?_; go_simp; exact kE hK hs),
     (fun a u hb hs hl hd K hK => by have s3 := gL hl 0; have g29 := vD hd 15; clear hd; refine step_yes rfl (j := 15) (d := 29) rfl rfl g29 ?_; go_simp; exact kE hK hs),
     (fun a u hb hs hl hd K hK => by have s5 := gL hl 1; have g29 := vD hd 15; clear hd; refine step_yes rfl (j := 15) (d := 29) rfl rfl g29 ?_; go_simp; exact kE hK hs),
     (fun a u hb hs hl hd K hK => by have s30 := gD hd 16; have s31 := gD hd 17; have g29 := vD hd 15; clear hd; refine step_yes rfl (j := 15) (d := 29) rfl rfl g29 ?_; go_simp; exact kE hK hs),
     (fun a u hb hs hl hd K hK => by have s32 := gD hd 18; have g29 := vD hd 15; clear hd; refine step_yes rfl (j := 15) (d := 29) rfl rfl g29 ?_; go_simp; exact kE hK hs),
     (fun a u hb hs hl hd K hK => by have s33 := gD hd 19; have ck0 := cell_up hb ck0; have ck2 := cell_up hb ck2; have cm0 := cell_up hb cm0; have cm2 := cell_up hb cm2; have g29 := vD hd 15; clear hd; refine step_yes rfl (j := 15) (d := 29) rfl rfl g29 ?_; go_simp; exact kE hK hs),
     (fun a u hb hs hl hd K hK => by have s3 := gL hl 0; have g29 := vD hd 15; clear hd; refine step_yes rfl (j := 15) (d := 29) rfl rfl g29 ?_; go_simp; exact kE hK hs),
     (fun a u hb hs hl hd K hK => by have s5 := gL hl 1; have g29 := vD hd 15; clear hd; refine step_yes rfl (j := 15) (d := 29) rfl rfl g29 ?_; go_simp; exact kE hK hs),
     (fun a u hb hs hl hd K hK => by have s36 := gD hd 22; have g29 := vD hd 15; clear hd; refine step_yes rfl (j := 15) (d := 29) rfl rfl g29 ?_; go_simp; exact kE hK hs),
     (fun a u hb hs hl hd K hK => by have s35 := gD hd 21; have s37 := gD hd 23; have g29 := vD hd 15; clear hd; refine step_yes rfl (j := 15) (d := 29) rfl rfl g29 ?_; go_simp; exact kE hK hs),
     (fun a u hb hs hl hd K hK => by have s38 := gD hd 24; have g29 := vD hd 15; clear hd; refine step_yes rfl (j := 15) (d := 29) rfl rfl g29 ?_; go_simp; exact kE hK hs),
     (fun a u hb hs hl hd K hK => by have s39 := gD hd 25; have ck0 := cell_up hb ck0; have ck2 := cell_up hb ck2; have cm0 := cell_up hb cm0; have cm2 := cell_up hb cm2; have g29 := vD hd 15; clear hd; refine step_yes rfl (j := 15) (d := 29) rfl rfl g29 ?_; go_simp; exact kE hK hs),
     (fun a u hb hs hl hd K hK => by have s34 := gD hd 20; have s40 := gD hd 26; have g29 := vD hd 15; clear hd; refine step_yes rfl (j := 15) (d := 29) rfl rfl g29 ?_; go_simp; exact kE hK hs),
     (fun a u hb hs hl hd K hK => by have s41 := gD hd 27; have g29 := vD hd 15; clear hd; refine step_yes rfl (j := 15) (d := 29) rfl rfl g29 ?_; go_simp; exact kE hK hs),
     (fun a u hb hs hl hd K hK => by have s3 := gL hl 0; have g42 := vD hd 28; clear hd; refine step_yes rfl (j := 28) (d := 42) rfl rfl g42 ?_; go_simp; exact kE hK hs),
     (fun a u hb hs hl hd K hK => by have s5 := gL hl 1; have g42 := vD hd 28; clear hd; refine step_yes rfl (j := 28) (d := 42) rfl rfl g42 ?_; go_simp; exact kE hK hs),
     (fun a u hb hs hl hd K hK => by have s43 := gD hd 29; have s44 := gD hd 30; have g42 := vD hd 28; clear hd; refine step_yes rfl (j := 28) (d := 42) rfl rfl g42 ?_; go_simp; exact kE hK hs),
     (fun a u hb hs hl hd K hK => by have s45 := gD hd 31; have g42 := vD hd 28; clear hd; refine step_yes rfl (j := 28) (d := 42) rfl rfl g42 ?_; go_simp; exact kE hK hs),
     (fun a u hb hs hl hd K hK => by have s46 := gD hd 32; have ck0 := cell_up hb ck0; have ck2 := cell_up hb ck2; have cm0 := cell_up hb cm0; have cm2 := cell_up hb cm2; have g42 := vD hd 28; clear hd; refine step_yes rfl (j := 28) (d := 42) rfl rfl g42 ?_; go_simp; exact kE hK hs),
     (fun a u hb hs hl hd K hK => by have s3 := gL hl 0; have g42 := vD hd 28; clear hd; refine step_yes rfl (j := 28) (d := 42) rfl rfl g42 ?_; go_simp; exact kE hK hs),
     (fun a u hb hs hl hd K hK => by have s5 := gL hl 1; have g42 := vD hd 28; clear hd; refine step_yes rfl (j := 28) (d := 42) rfl rfl g42 ?_; go_simp; exact kE hK hs),
     (fun a u hb hs hl hd K hK => by have s49 := gD hd 35; have g42 := vD hd 28; clear hd; refine step_yes rfl (j := 28) (d := 42) rfl rfl g42 ?_; go_simp; exact kE hK hs),
     (fun a u hb hs hl hd K hK => by have s48 := gD hd 34; have s50 := gD hd 36; have g42 := vD hd 28; clear hd; refine step_yes rfl (j := 28) (d := 42) rfl rfl g42 ?_; go_simp; exact kE hK hs),
     (fun a u hb hs hl hd K hK => by have s51 := gD hd 37; have g42 := vD hd 28; clear hd; refine step_yes rfl (j := 28) (d := 42) rfl rfl g42 ?_; go_simp; exact kE hK hs),
     (fun a u hb hs hl hd K hK => by have s52 := gD hd 38; have ck0 := cell_up hb ck0; have ck2 := cell_up hb ck2; have cm0 := cell_up hb cm0; have cm2 := cell_up hb cm2; have g42 := vD hd 28; clear hd; refine step_yes rfl (j := 28) (d := 42) rfl rfl g42 ?_; go_simp; exact kE hK hs),
     (fun a u hb hs hl hd K hK => by have s47 := gD hd 33; have s53 := gD hd 39; have g42 := vD hd 28; clear hd; refine step_yes rfl (j := 28) (d := 42) rfl rfl g42 ?_; go_simp; exact kE hK hs),
     (fun a u hb hs hl hd K hK => by have s42 := gD hd 28; have s54 := gD hd 40; have g29 := vD hd 15; clear hd; refine step_yes rfl (j := 15) (d := 29) rfl rfl g29 ?_; go_simp; exact kE hK hs),
     (fun a u hb hs hl hd K hK => by have s29 := gD hd 15; have s55 := gD hd 41; have g16 := vD hd 2; clear hd; refine step_yes rfl (j := 2) (d := 16) rfl rfl g16 ?_; go_simp; exact kE hK hs),
     trivial⟩ ?_
   clear hs hd s3 s5 s9 s10
   intro a w hb hs hd zl hh
   replace zl := lH hh 2 zl
   replace zl := lH hh 42 zl
   clear hh
   replace hsb := hsb.after hb
   replace ck0 := cell_up hb ck0
   replace ck2 := cell_up hb ck2
   replace cm0 := cell_up hb cm0
   replace cm2 := cell_up hb cm2
   replace hB := bz_then hB hb
   clear hb
   show wpList _ _ _ [_] _ _
   refine tail_op rfl (fun K hK => ?_)
   have q16 := gL zl 1
   have q56 := gL zl 0
   go_simp
   clear q16 q56
   refine hK _ _ (tP hs hd zl ?_)
   clear hK K hs hd zl
   intro a hs hd zl
   clear e0 e0' ek ck0 ck2 cm0 cm2 hkn hmn hk1
   have s57 := vL zl 0
   obtain ⟨bb, hbb⟩ : ∃ b, a.tmps.getD 57 undef = .bool b := ⟨_, s57⟩
   clear s57
   obtain ⟨-, -, -, s3, s5, s9, s10, -⟩ := zl
   have s57 := hbb
   clear hbb
   cases bb
   ·refine wp_cond_false s57 ?_
    refine wp_exit ?_
    repeat refine then_exit ?_
    refine inBlock_exit ?_
    have ew : IntKind.i64.wrap ((i : Int) + 1) = ((i + 1 : Nat) : Int) := by rw [IntWalk.i64_in _ (by omega)]; omega
    refine wp_region_list ?_
    show wpList _ _ _ [_, _] _ _
    refine tail_op rfl (fun K hK => ?_)
    have q10 := gd s10
    go_simp
    clear q10
    refine hK _ _ ?_
    clear hK K
    refine act_put (d := 76) _ hs hd (by decide) [(3, _), (5, _), (9, _), (10, _), (57, _)] ⟨s3, s5, s9, s10, s57, trivial⟩ rfl ?_
    clear hs hd s3 s5 s9 s10 s57
    intro a hs hd zl
    refine tail_op rfl (fun K hK => ?_)
    have q76 := gL zl 0
    go_simp
    clear q76
    refine hK _ _ ?_
    clear hK K
    obtain ⟨s76, s3, s5, s9, s10, s57, -⟩ := zl
    refine act_put (d := 10) _ hs hd (by decide) [(3, _), (5, _), (9, _), (57, _), (76, _)] ⟨s3, s5, s9, s57, s76, trivial⟩ rfl ?_
    clear hs hd s3 s5 s9 s10 s57 s76
    intro a hs hd zl
    obtain ⟨s10, s3, -, s9, -, -, -⟩ := zl
    refine ⟨⟨i + 1, S', hs, hd, ⟨s3, s9, s10, trivial⟩, hlt, hB, hp, hsb, HSZ.out⟩, ?_⟩
    rw [s10]
    simp [intOf]
    omega
   refine wp_cond_true s57 ?_
   refine wp_skip ?_
   refine wp_seq ?_
   refine wp_block ?_
   have hkn : k < n := by omega
   have hmn : m < n := by have := HKM.out; omega
   have hk_ : k < S'.length := by omega
   have hm_ : m < S'.length := by omega
   have ek : IntKind.i64.wrap ((k : Int) - 1) = (m : Int) := by rw [IntWalk.i64_in _ (by have := HKM.out; omega)]; have := HKM.out; omega
   refine wp_flow4_use [(3, _), (5, _), (9, _), (10, _), (57, _)]
    [some (60, _), some (61, _), some (62, _), some (63, _), some (64, _), some (65, _), some (66, _), some (67, _), some (68, _), some (69, .agg sm.cells.toArray), some (70, _), some (71, _), some (72, _), some (73, .agg sk.cells.toArray), some (74, _), none, some (75, _), none]
    [15, 17] [(none, some 0), (none, some 0), (none, some 1), (none, some 1), (none, some 1), (none, some 0), (none, some 0), (none, some 0), (none, some 0), (none, some 0), (none, some 1), (none, some 1), (none, some 1), (none, some 0), (none, some 0), (some 0, some 1), (none, some 1), (some 1, none)]
    (fun c w => Below w0.heap.size w0 w ∧ SB w g (swp S' k m sk sm c) rest)
    78 (by kernel_rfl) (by kernel_rfl) (by kernel_rfl) (by kernel_rfl) (by kernel_rfl) hs hd ⟨s3, s5, s9, s10, s57, trivial⟩ ⟨hB.drew, hsb⟩
    ⟨(fun a u c hT hr hbd hs hl hd K hK => by
      obtain ⟨l3, -, -, -, -, -⟩ := hl
      have s3 := gd l3
      clear hd
      have hcb := hbd 0 rfl
      refine step_plain rfl ?_
      go_simp; exact hK _ _ (s_put hs (by decide)) hT),
     (fun a u c hT hr hbd hs hl hd K hK => by
      obtain ⟨-, l5, -, -, -, -⟩ := hl
      have s5 := gd l5
      clear hd
      have hcb := hbd 0 rfl
      refine step_plain rfl ?_
      go_simp; exact hK _ _ (s_put hs (by decide)) hT),
     (fun a u c hT hr hbd hs hl hd K hK => by
      obtain ⟨l3, -, -, -, -, -⟩ := hl
      have s3 := gd l3
      clear hd
      have hcb := hbd 1 rfl
      refine step_plain rfl ?_
      go_simp; exact hK _ _ (s_put hs (by decide)) hT),
     (fun a u c hT hr hbd hs hl hd K hK => by
      obtain ⟨-, l5, -, -, -, -⟩ := hl
      have s5 := gd l5
      clear hd
      have hcb := hbd 1 rfl
      refine step_plain rfl ?_
      go_simp; exact hK _ _ (s_put hs (by decide)) hT),
     (fun a u c hT hr hbd hs hl hd K hK => by
      have s63 := gd (sdep_get hd 3 (by kernel_rfl) rfl)
      clear hd
      have hcb := hbd 1 rfl
      refine step_plain rfl ?_
      go_simp; exact hK _ _ (s_put hs (by decide)) hT),
     (fun a u c hT hr hbd hs hl hd K hK => by
      obtain ⟨l3, -, -, -, -, -⟩ := hl
      have s3 := gd l3
      clear hd
      have hcb := hbd 0 rfl
      refine step_plain rfl ?_
      go_simp; exact hK _ _ (s_put hs (by decide)) hT),
     (fun a u c hT hr hbd hs hl hd K hK => by
      obtain ⟨-, l5, -, -, -, -⟩ := hl
      have s5 := gd l5
      clear hd
      have hcb := hbd 0 rfl
      refine step_plain rfl ?_
      go_simp; exact hK _ _ (s_put hs (by decide)) hT),
     (fun a u c hT hr hbd hs hl hd K hK => by
      have s66 := gd (sdep_get hd 6 (by kernel_rfl) rfl)
      clear hd
      have hcb := hbd 0 rfl
      refine step_plain rfl ?_
      go_simp; exact hK _ _ (s_put hs (by decide)) hT),
     (fun a u c hT hr hbd hs hl hd K hK => by
      have s65 := gd (sdep_get hd 5 (by kernel_rfl) rfl)
      have s67 := gd (sdep_get hd 7 (by kernel_rfl) rfl)
      clear hd
      have hcb := hbd 0 rfl
      refine step_plain rfl ?_
      go_simp; exact hK _ _ (s_put hs (by decide)) hT),
     (fun a u c hT hr hbd hs hl hd K hK => by
      have s68 := gd (sdep_get hd 8 (by kernel_rfl) rfl)
      clear hd
      have hcb := hbd 0 rfl
      refine step_plain rfl ?_
      obtain rfl : c = 0 := by omega
      refine op_load_cells 50 (.tmp 68) rfl g (m * 4) (gu s68) sm.cells _ (fun j v h => SB.cell hT.2 hSm.out h) rfl rfl (by kernel_rfl) ?_
      exact hK _ _ (s_put hs (by decide)) hT),
     (fun a u c hT hr hbd hs hl hd K hK => by
      obtain ⟨l3, -, -, -, -, -⟩ := hl
      have s3 := gd l3
      clear hd
      have hcb := hbd 1 rfl
      refine step_plain rfl ?_
      go_simp; exact hK _ _ (s_put hs (by decide)) hT),
     (fun a u c hT hr hbd hs hl hd K hK => by
      obtain ⟨-, l5, -, -, -, -⟩ := hl
      have s5 := gd l5
      clear hd
      have hcb := hbd 1 rfl
      refine step_plain rfl ?_
      go_simp; exact hK _ _ (s_put hs (by decide)) hT),
     (fun a u c hT hr hbd hs hl hd K hK => by
      have s70 := gd (sdep_get hd 10 (by kernel_rfl) rfl)
      have s71 := gd (sdep_get hd 11 (by kernel_rfl) rfl)
      clear hd
      have hcb := hbd 1 rfl
      refine step_plain rfl ?_
      go_simp; exact hK _ _ (s_put hs (by decide)) hT),
     (fun a u c hT hr hbd hs hl hd K hK => by
      have s72 := gd (sdep_get hd 12 (by kernel_rfl) rfl)
      clear hd
      have hcb := hbd 0 rfl
      refine step_plain rfl ?_
      obtain rfl : c = 0 := by omega
      refine op_load_cells 50 (.tmp 72) rfl g (k * 4) (gu s72) sk.cells _ (fun j v h => SB.cell hT.2 hSk.out h) rfl rfl (by kernel_rfl) ?_
      exact hK _ _ (s_put hs (by decide)) hT),
     (fun a u c hT hr hbd hs hl hd K hK => by
      have s60 := gd (sdep_get hd 0 (by kernel_rfl) rfl)
      have s61 := gd (sdep_get hd 1 (by kernel_rfl) rfl)
      clear hd
      have hcb := hbd 0 rfl
      refine step_plain rfl ?_
      go_simp; exact hK _ _ (s_put hs (by decide)) hT),
     (fun a u c hT hr hbd hs hl hd K hK => by
      have s69 := gd (sdep_get hd 9 (by kernel_rfl) rfl)
      have s74 := gd (sdep_get hd 14 (by kernel_rfl) rfl)
      clear hd
      obtain rfl := hr 0 rfl
      refine step_plain rfl ?_
      refine op_store_part 50 (.tmp 74) (.tmp 69) rfl g (k * 4) (gu s74) sm.cells.toArray (gu s69) 50 _ hT.2 (SBl_room (S') rest k (by simpa using hk_)) (by kernel_rfl) (seat_one _) ?_
      rw [SBl_set _ _ _ _ (by simpa [swp] using hk_)]
      exact hK undef _ trivial ⟨below_setRow hT.1 hg0 _, Blk.setRow hT.2 _⟩),
     (fun a u c hT hr hbd hs hl hd K hK => by
      have s62 := gd (sdep_get hd 2 (by kernel_rfl) rfl)
      have s64 := gd (sdep_get hd 4 (by kernel_rfl) rfl)
      clear hd
      have hcb := hbd 1 rfl
      refine step_plain rfl ?_
      go_simp; exact hK _ _ (s_put hs (by decide)) hT),
     (fun a u c hT hr hbd hs hl hd K hK => by
      have s73 := gd (sdep_get hd 13 (by kernel_rfl) rfl)
      have s75 := gd (sdep_get hd 16 (by kernel_rfl) rfl)
      clear hd
      obtain rfl := hr 1 rfl
      refine step_plain rfl ?_
      refine op_store_part 50 (.tmp 75) (.tmp 73) rfl g (m * 4) (gu s75) sk.cells.toArray (gu s73) 50 _ hT.2 (SBl_room (S'.set k sm) rest m (by simpa using hm_)) (by kernel_rfl) (seat_one _) ?_
      rw [SBl_set _ _ _ _ (by simpa [swp] using hm_)]
      exact hK undef _ trivial ⟨below_setRow hT.1 hg0 _, Blk.setRow hT.2 _⟩),
     trivial⟩ ?_
   clear hs hd s3 s5 s9 s10 s57
   intro a w hT hs hd hl hh
   obtain ⟨s3, s5, s9, s10, -, -⟩ := hl
   clear hh
   clear hB hsb
   obtain ⟨hB, hsb⟩ := hT
   replace hsb : SB w g ((S'.set k sm).set m sk) rest := hsb
   refine wp_region_list ?_
   show wpList _ _ _ [_, _, _] _ _
   refine tail_op rfl (fun K hK => ?_)
   have q5 := gd s5
   go_simp
   clear q5
   refine hK _ _ ?_
   clear hK K
   refine act_put (d := 58) _ hs hd (by decide) [(3, _), (5, _), (9, _), (10, _)] ⟨s3, s5, s9, s10, trivial⟩ rfl ?_
   clear hs hd s3 s5 s9 s10
   intro a hs hd zl
   refine tail_op rfl (fun K hK => ?_)
   have q58 := gL zl 0
   go_simp
   clear q58
   refine hK _ _ (tP hs hd zl ?_)
   clear hK K hs hd zl
   intro a hs hd zl
   refine tail_op rfl (fun K hK => ?_)
   have q59 := gL zl 0
   go_simp
   clear q59
   refine hK _ _ ?_
   clear hK K
   obtain ⟨s59, s58, s3, s5, s9, s10, -⟩ := zl
   refine act_put (d := 5) _ hs hd (by decide) [(3, _), (9, _), (10, _), (58, _), (59, _)] ⟨s3, s9, s10, s58, s59, trivial⟩ rfl ?_
   clear hs hd s3 s5 s9 s10 s58 s59
   intro a hs hd zl
   have hpm : List.Perm ((S'.set k sm).set m sk) S' := by
    have := @List.set_set_perm _ S' k m hk_ hm_
    rw [(List.getElem?_eq_some_iff.1 hSk.out).2, (List.getElem?_eq_some_iff.1 hSm.out).2] at this
    exact this
   obtain ⟨s5, s3, s9, s10, -, -, -⟩ := zl
   refine ⟨⟨m, (S'.set k sm).set m sk, hs, hd, ⟨s3, s9, s10, s5, trivial⟩, (by have := HKM.out; omega), hB, hpm.trans hp, hsb, (by rw [SBl_size_set, SBl_size_set]; exact HSZ.out)⟩, ?_⟩
   rw [s5]
   simp [intOf]
   have := HKM.out
   omega
  have e2 : (sk.p == sm.p) = false := by rw [beq_eq_false_iff_ne]; exact h2
  clear h2
  refine wp_seq ?_
  refine wp_seq ?_
  have e0 : decide (0 < k) = true := decide_eq_true hkp
  have e0' : decide ((0 : Int) < (k : Int)) = true := decide_eq_true (by omega)
  have hkn : k < n := by omega
  have hmn : m < n := by have := HKM.out; omega
  have hk1 : (1 : Int) ≤ (k : Int) := by omega
  have ek : IntKind.i64.wrap ((k : Int) - 1) = (m : Int) := by rw [IntWalk.i64_in _ (by have := HKM.out; omega)]; have := HKM.out; omega
  refine fl2 (F := [(3, _), (5, _), (9, _), (10, _)]) [FItem.eq 14 _, FItem.eq 15 (.bool true), FItem.eq 16 (.bool true), FItem.eq 17 _, FItem.eq 18 _, FItem.eq 19 _, FItem.eq 20 _, FItem.eq 21 _, FItem.eq 22 _, FItem.eq 23 _, FItem.eq 24 _, FItem.eq 25 _, FItem.eq 26 _, FItem.eq 27 _, FItem.eq 28 (.bool false), FItem.eq 29 (.bool false), FItem.eq 30 _, FItem.eq 31 _, FItem.eq 32 _, FItem.eq 33 _, FItem.eq 34 _, FItem.eq 35 _, FItem.eq 36 _, FItem.eq 37 _, FItem.eq 38 _, FItem.eq 39 _, FItem.eq 40 _, FItem.eq 41 (.bool false), FItem.eq 42 (.bool false), FItem.eq 43 _, FItem.eq 44 _, FItem.eq 45 _, FItem.eq 46 _, FItem.eq 47 _, FItem.eq 48 _, FItem.eq 49 _, FItem.eq 50 _, FItem.eq 51 _, FItem.eq 52 _, FItem.eq 53 _, FItem.eq 54 _, FItem.eq 55 _, FItem.eq 56 _] 43 hs hd ⟨s3, s5, s9, s10, trivial⟩
   ⟨(stp rfl fun a u hb hs hl hd K hK => by have s5 := gL hl 1; clear hd; go_simp; exact kE hK hs),
    (stp rfl fun a u hb hs hl hd K hK => by have s14 := gD hd 0; clear hd; go_simp; exact kE hK hs),
    (stp rfl fun a u hb hs hl hd K hK => by have s15 := gD hd 1; clear hd; go_simp; exact kE hK hs),
    (fun a u hb hs hl hd K hK => by have s3 := gL hl 0; have g16 := vD hd 2; clear hd; refine step_yes rfl (j := 2) (d := 16) rfl rfl g16 ?_; go_simp; exact kE hK hs),
    (fun a u hb hs hl hd K hK => by have s5 := gL hl 1; have g16 := vD hd 2; clear hd; refine step_yes rfl (j := 2) (d := 16) rfl rfl g16 ?_; go_simp; exact kE hK hs),
    (fun a u hb hs hl hd K hK => by have s17 := gD hd 3; have s18 := gD hd 4; have g16 := vD hd 2; clear hd; refine step_yes rfl (j := 2) (d := 16) rfl rfl g16 ?_; go_simp; exact kE hK hs),
    (fun a u hb hs hl hd K hK => by have s19 := gD hd 5; have g16 := vD hd 2; clear hd; refine step_yes rfl (j := 2) (d := 16) rfl rfl g16 ?_; go_simp; exact kE hK hs),
    (fun a u hb hs hl hd K hK => by have s20 := gD hd 6; have ck0 := cell_up hb ck0; have ck2 := cell_up hb ck2; have cm0 := cell_up hb cm0; have cm2 := cell_up hb cm2; have g16 := vD hd 2; clear hd; refine step_yes rfl (j := 2) (d := 16) rfl rfl g16 ?_; go_simp; exact kE hK hs),
    (fun a u hb hs hl hd K hK => by have s3 := gL hl 0; have g16 := vD hd 2; clear hd; refine step_yes rfl (j := 2) (d := 16) rfl rfl g16 ?_; go_simp; exact kE hK hs),
    (fun a u hb hs hl hd K hK => by have s5 := gL hl 1; have g16 := vD hd 2; clear hd; refine step_yes rfl (j := 2) (d := 16) rfl rfl g16 ?_; go_simp; exact kE hK hs),
    (fun a u hb hs hl hd K hK => by have s23 := gD hd 9; have g16 := vD hd 2; clear hd; refine step_yes rfl (j := 2) (d := 16) rfl rfl g16 ?_; go_simp; exact kE hK hs),
    (fun a u hb hs hl hd K hK => by have s22 := gD hd 8; have s24 := gD hd 10; have g16 := vD hd 2; clear hd; refine step_yes rfl (j := 2) (d := 16) rfl rfl g16 ?_; go_simp; exact kE hK hs),
    (fun a u hb hs hl hd K hK => by have s25 := gD hd 11; have g16 := vD hd 2; clear hd; refine step_yes rfl (j := 2) (d := 16) rfl rfl g16 ?_; go_simp; exact kE hK hs),
    (fun a u hb hs hl hd K hK => by have s26 := gD hd 12; have ck0 := cell_up hb ck0; have ck2 := cell_up hb ck2; have cm0 := cell_up hb cm0; have cm2 := cell_up hb cm2; have g16 := vD hd 2; clear hd; refine step_yes rfl (j := 2) (d := 16) rfl rfl g16 ?_; go_simp; exact kE hK hs),
    (fun a u hb hs hl hd K hK => by have s21 := gD hd 7; have s27 := gD hd 13; have g16 := vD hd 2; clear hd; refine step_yes rfl (j := 2) (d := 16) rfl rfl g16 ?_; go_simp; exact kE hK hs),
    (fun a u hb hs hl hd K hK => by have s28 := gD hd 14; have g16 := vD hd 2; clear hd; refine step_yes rfl (j := 2) (d := 16) rfl rfl g16 ?_; go_simp; exact kE hK hs),
    (fun a u hb hs hl hd K hK => by have s3 := gL hl 0; have g29 := vD hd 15; clear hd; refine step_yes rfl (j := 15) (d := 29) rfl rfl g29 ?_; go_simp; exact kE hK hs),
    (fun a u hb hs hl hd K hK => by have s5 := gL hl 1; have g29 := vD hd 15; clear hd; refine step_yes rfl (j := 15) (d := 29) rfl rfl g29 ?_; go_simp; exact kE hK hs),
    (fun a u hb hs hl hd K hK => by have s30 := gD hd 16; have s31 := gD hd 17; have g29 := vD hd 15; clear hd; refine step_yes rfl (j := 15) (d := 29) rfl rfl g29 ?_; go_simp; exact kE hK hs),
    (fun a u hb hs hl hd K hK => by have s32 := gD hd 18; have g29 := vD hd 15; clear hd; refine step_yes rfl (j := 15) (d := 29) rfl rfl g29 ?_; go_simp; exact kE hK hs),
    (fun a u hb hs hl hd K hK => by have s33 := gD hd 19; have ck0 := cell_up hb ck0; have ck2 := cell_up hb ck2; have cm0 := cell_up hb cm0; have cm2 := cell_up hb cm2; have g29 := vD hd 15; clear hd; refine step_yes rfl (j := 15) (d := 29) rfl rfl g29 ?_; go_simp; exact kE hK hs),
    (fun a u hb hs hl hd K hK => by have s3 := gL hl 0; have g29 := vD hd 15; clear hd; refine step_yes rfl (j := 15) (d := 29) rfl rfl g29 ?_; go_simp; exact kE hK hs),
    (fun a u hb hs hl hd K hK => by have s5 := gL hl 1; have g29 := vD hd 15; clear hd; refine step_yes rfl (j := 15) (d := 29) rfl rfl g29 ?_; go_simp; exact kE hK hs),
    (fun a u hb hs hl hd K hK => by have s36 := gD hd 22; have g29 := vD hd 15; clear hd; refine step_yes rfl (j := 15) (d := 29) rfl rfl g29 ?_; go_simp; exact kE hK hs),
    (fun a u hb hs hl hd K hK => by have s35 := gD hd 21; have s37 := gD hd 23; have g29 := vD hd 15; clear hd; refine step_yes rfl (j := 15) (d := 29) rfl rfl g29 ?_; go_simp; exact kE hK hs),
    (fun a u hb hs hl hd K hK => by have s38 := gD hd 24; have g29 := vD hd 15; clear hd; refine step_yes rfl (j := 15) (d := 29) rfl rfl g29 ?_; go_simp; exact kE hK hs),
    (fun a u hb hs hl hd K hK => by have s39 := gD hd 25; have ck0 := cell_up hb ck0; have ck2 := cell_up hb ck2; have cm0 := cell_up hb cm0; have cm2 := cell_up hb cm2; have g29 := vD hd 15; clear hd; refine step_yes rfl (j := 15) (d := 29) rfl rfl g29 ?_; go_simp; exact kE hK hs),
    (fun a u hb hs hl hd K hK => by have s34 := gD hd 20; have s40 := gD hd 26; have g29 := vD hd 15; clear hd; refine step_yes rfl (j := 15) (d := 29) rfl rfl g29 ?_; go_simp; exact kE hK hs),
    (fun a u hb hs hl hd K hK => by have s41 := gD hd 27; have g29 := vD hd 15; clear hd; refine step_yes rfl (j := 15) (d := 29) rfl rfl g29 ?_; go_simp; exact kE hK hs),
    (fun a u hb hs hl hd K hK => by have s3 := gL hl 0; have g42 := vD hd 28; clear hd; refine step_no rfl (j := 28) (d := 42) rfl rfl g42 (by decide) ?_; exact kE hK hs),
    (fun a u hb hs hl hd K hK => by have s5 := gL hl 1; have g42 := vD hd 28; clear hd; refine step_no rfl (j := 28) (d := 42) rfl rfl g42 (by decide) ?_; exact kE hK hs),
    (fun a u hb hs hl hd K hK => by have s43 := gD hd 29; have s44 := gD hd 30; have g42 := vD hd 28; clear hd; refine step_no rfl (j := 28) (d := 42) rfl rfl g42 (by decide) ?_; exact kE hK hs),
    (fun a u hb hs hl hd K hK => by have s45 := gD hd 31; have g42 := vD hd 28; clear hd; refine step_no rfl (j := 28) (d := 42) rfl rfl g42 (by decide) ?_; exact kE hK hs),
    (fun a u hb hs hl hd K hK => by have s46 := gD hd 32; have ck0 := cell_up hb ck0; have ck2 := cell_up hb ck2; have cm0 := cell_up hb cm0; have cm2 := cell_up hb cm2; have g42 := vD hd 28; clear hd; refine step_no rfl (j := 28) (d := 42) rfl rfl g42 (by decide) ?_; exact kE hK hs),
    (fun a u hb hs hl hd K hK => by have s3 := gL hl 0; have g42 := vD hd 28; clear hd; refine step_no rfl (j := 28) (d := 42) rfl rfl g42 (by decide) ?_; exact kE hK hs),
    (fun a u hb hs hl hd K hK => by have s5 := gL hl 1; have g42 := vD hd 28; clear hd; refine step_no rfl (j := 28) (d := 42) rfl rfl g42 (by decide) ?_; exact kE hK hs),
    (fun a u hb hs hl hd K hK => by have s49 := gD hd 35; have g42 := vD hd 28; clear hd; refine step_no rfl (j := 28) (d := 42) rfl rfl g42 (by decide) ?_; exact kE hK hs),
    (fun a u hb hs hl hd K hK => by have s48 := gD hd 34; have s50 := gD hd 36; have g42 := vD hd 28; clear hd; refine step_no rfl (j := 28) (d := 42) rfl rfl g42 (by decide) ?_; exact kE hK hs),
    (fun a u hb hs hl hd K hK => by have s51 := gD hd 37; have g42 := vD hd 28; clear hd; refine step_no rfl (j := 28) (d := 42) rfl rfl g42 (by decide) ?_; exact kE hK hs),
    (fun a u hb hs hl hd K hK => by have s52 := gD hd 38; have ck0 := cell_up hb ck0; have ck2 := cell_up hb ck2; have cm0 := cell_up hb cm0; have cm2 := cell_up hb cm2; have g42 := vD hd 28; clear hd; refine step_no rfl (j := 28) (d := 42) rfl rfl g42 (by decide) ?_; exact kE hK hs),
    (fun a u hb hs hl hd K hK => by have s47 := gD hd 33; have s53 := gD hd 39; have g42 := vD hd 28; clear hd; refine step_no rfl (j := 28) (d := 42) rfl rfl g42 (by decide) ?_; exact kE hK hs),
    (fun a u hb hs hl hd K hK => by have s42 := gD hd 28; have s54 := gD hd 40; have g29 := vD hd 15; clear hd; refine step_yes rfl (j := 15) (d := 29) rfl rfl g29 ?_; go_simp; exact kE hK hs),
    (fun a u hb hs hl hd K hK => by have s29 := gD hd 15; have s55 := gD hd 41; have g16 := vD hd 2; clear hd; refine step_yes rfl (j := 2) (d := 16) rfl rfl g16 ?_; go_simp; exact kE hK hs),
    trivial⟩ ?_
  clear hs hd s3 s5 s9 s10
  intro a w hb hs hd zl hh
  replace zl := lH hh 2 zl
  replace zl := lH hh 42 zl
  clear hh
  replace hsb := hsb.after hb
  replace ck0 := cell_up hb ck0
  replace ck2 := cell_up hb ck2
  replace cm0 := cell_up hb cm0
  replace cm2 := cell_up hb cm2
  replace hB := bz_then hB hb
  clear hb
  show wpList _ _ _ [_] _ _
  refine tail_op rfl (fun K hK => ?_)
  have q16 := gL zl 1
  have q56 := gL zl 0
  go_simp
  clear q16 q56
  refine hK _ _ (tP hs hd zl ?_)
  clear hK K hs hd zl
  intro a hs hd zl
  clear e0 e0' ek ck0 ck2 cm0 cm2 hkn hmn hk1
  refine wp_cond_false (vL zl 0) ?_
  refine wp_exit ?_
  repeat refine then_exit ?_
  refine inBlock_exit ?_
  have ew : IntKind.i64.wrap ((i : Int) + 1) = ((i + 1 : Nat) : Int) := by rw [IntWalk.i64_in _ (by omega)]; omega
  refine wp_region_list ?_
  show wpList _ _ _ [_, _] _ _
  refine tail_op rfl (fun K hK => ?_)
  have q10 := gL zl 6
  go_simp
  clear q10
  refine hK _ _ (tP hs hd zl ?_)
  clear hK K hs hd zl
  intro a hs hd zl
  refine tail_op rfl (fun K hK => ?_)
  have q76 := gL zl 0
  go_simp
  clear q76
  refine hK _ _ ?_
  clear hK K
  obtain ⟨s76, s57, -, -, s3, s5, s9, s10, -⟩ := zl
  refine act_put (d := 10) _ hs hd (by decide) [(3, _), (5, _), (9, _), (57, _), (76, _)] ⟨s3, s5, s9, s57, s76, trivial⟩ rfl ?_
  clear hs hd s3 s5 s9 s10 s57 s76
  intro a hs hd zl
  obtain ⟨s10, s3, -, s9, -, -, -⟩ := zl
  refine ⟨⟨i + 1, S', hs, hd, ⟨s3, s9, s10, trivial⟩, hlt, hB, hp, hsb, HSZ.out⟩, ?_⟩
  rw [s10]
  simp [intOf]
  omega
 obtain rfl : i = n := by omega
 have e1 : decide (i < i) = false := decide_eq_false (by omega)
 refine wp_seq ?_
 refine wp_region_list ?_
 show wpList _ _ _ [_] _ _
 refine tail_op rfl (fun K hK => ?_)
 have q9 := gd s9
 have q10 := gd s10
 go_simp
 clear q9 q10
 refine hK _ _ ?_
 clear hK K
 refine act_put (d := 11) _ hs hd (by decide) [(3, _), (9, _), (10, _)] ⟨s3, s9, s10, trivial⟩ rfl ?_
 clear hs hd s3 s9 s10
 intro a hs hd zl
 refine wp_seq ?_
 refine wp_cond_false (vL zl 0) ?_
 refine wp_exit ?_
 repeat refine then_exit ?_
 refine inBlock_exit ?_
 refine wp_seq ?_
 refine wp_region_list ?_
 show wpList _ _ _ [_, _] _ _
 refine tail_op rfl (fun K hK => ?_)
 have q3 := gL zl 1
 go_simp
 clear q3
 refine hK _ _ (tP hs hd zl ?_)
 clear hK K hs hd zl
 intro a hs hd zl
 refine tail_op rfl (fun K hK => ?_)
 have q77 := gL zl 0
 go_simp
 clear q77
 refine hK _ _ (tP hs hd zl ?_)
 clear hK K hs hd zl
 intro a hs hd zl
 have hln : S'.length = i := hp.length_eq.trans hn.out
 refine wp_ret ?_
 exact end_tmp rfl hd (vL zl 0) ⟨S', _, _, by rw [hln], hp, hsb.own hg0 hsz (by rw [hln, ← hn.out]; exact hlc) hcm, hB⟩
end Go.Proofs.YtcmllcmcbamlbaaDoor
