/- The reference's Sum: the rounds. (Printed by gen_ssumf.py.) The reference's Sum: a block's end. (Printed by gen_ssumg.py.) The reference's Sum: the state copied into a slice of its own. The reference's Sum: the blocks. (Printed by gen_ssumh.py.) The reference's Sum: its bytes. (Printed by gen_ssumi.py.) -/
import Derived.Test.YtcmllcmcbamlbaaDoorM7
set_option linter.unusedVariables false
set_option linter.unusedSimpArgs false
namespace Go.Proofs.YtcmllcmcbamlbaaDoor
open Go.RowKit
/-- Eight cells that hold a state. -/
def Ho (w : World) (hb : Nat) (R : ShaSt) : Prop :=
 w.cell? ⟨hb, 0, none⟩ = some (.int .u32 R.a) ∧ w.cell? ⟨hb, 1, none⟩ = some (.int .u32 R.b) ∧ w.cell? ⟨hb, 2, none⟩ = some (.int .u32 R.c) ∧ w.cell? ⟨hb, 3, none⟩ = some (.int .u32 R.d) ∧ w.cell? ⟨hb, 4, none⟩ = some (.int .u32 R.e) ∧ w.cell? ⟨hb, 5, none⟩ = some (.int .u32 R.f) ∧ w.cell? ⟨hb, 6, none⟩ = some (.int .u32 R.g) ∧ w.cell? ⟨hb, 7, none⟩ = some (.int .u32 R.h)
theorem Ho.after {w w' : World} {hb : Nat} {R : ShaSt} (h : Ho w hb R) (hB : Below w.heap.size w w') : Ho w' hb R := by
 obtain ⟨h0, h1, h2, h3, h4, h5, h6, h7⟩ := h
 exact ⟨cell_up hB h0, cell_up hB h1, cell_up hB h2, cell_up hB h3, cell_up hB h4, cell_up hB h5, cell_up hB h6, cell_up hB h7⟩
theorem Ho.new {w : World} {hb : Nat} {t : TypeId} {R : ShaSt} (h : Blk w hb t (st8 R)) : Ho w hb R :=
 ⟨h.cell 0, h.cell 1, h.cell 2, h.cell 3, h.cell 4, h.cell 5, h.cell 6, h.cell 7⟩
theorem ch_prog (e f g : Int) : bits .xor .u32 (bits .and .u32 e f) (bits .and .u32 (bits .xor .u32 (if IntKind.u32.signed = true then -1 else IntKind.u32.max) e) g) = xor32 (and32 e f) (bits .andNot .u32 g e) := by rw [andNot_prog]; rfl
theorem k64_get {i : Nat} (h : i < 64) : k64[i]? = some (.int .u32 (kTab.getD i 0)) := by
 unfold k64
 rw [List.getElem?_toArray, List.getElem?_map, List.getD_eq_getElem?_getD, List.getElem?_eq_getElem (show i < kTab.length from h)]
 rfl
theorem SS.k {w0 w : World} {B1 H KR : Nat} {S : ShaSt} (h : SS w0 w B1 H KR S) {i : Nat} (hi : i < 64) : w.cell? ⟨KR, i, none⟩ = some (.int .u32 (kTab.getD i 0)) := (h.2.2.1.cell i).trans (k64_get hi)

set_option maxHeartbeats 4000000 in
set_option maxRecDepth 100000 in
theorem ss_rounds {Q : Exit → Act → World → Prop} {B1 H KR n p WB b o N hb c : Nat} {v0 v6 v9 : Value} {S : ShaSt} {w0 : World} {P : List Int} (a : Act) (w : World) (hs : SzIs a 300) (hd : DfNil a)
  (s0 : a.tmps.getD 0 undef = v0) (s3 : a.tmps.getD 3 undef = .pointer (some ⟨H, 0, none⟩)) (s4 : a.tmps.getD 4 undef = .pointer (some ⟨KR, 0, none⟩)) (s5 : a.tmps.getD 5 undef = .int .i64 ((n : Nat) : Int)) (s6 : a.tmps.getD 6 undef = v6) (s8 : a.tmps.getD 8 undef = (Value.func (Fn.func 26) #[] #[])) (s9 : a.tmps.getD 9 undef = v9) (s10 : a.tmps.getD 10 undef = .pointer (some ⟨WB, 0, none⟩)) (s16 : a.tmps.getD 16 undef = .slice (some ⟨hb, 0, none⟩) 8 c) (s146 : a.tmps.getD 146 undef = .int .i64 0)
  (hSS : SS w0 w B1 H KR S) (hW : SchZ w WB P p 64 0) (hM : BytesAt w b o P 0 N) (hH : Ho w hb S) (hhb : B1 ≤ hb)
  (hQ : ∀ (a : Act) (w : World) (hb c : Nat) (R : ShaSt), Is R (shaRds P p S 64) → SzIs a 300 → DfNil a → LiveAll [(0, v0), (3, .pointer (some ⟨H, 0, none⟩)), (4, .pointer (some ⟨KR, 0, none⟩)), (5, .int .i64 ((n : Nat) : Int)), (6, v6), (8, (Value.func (Fn.func 26) #[] #[])), (9, v9), (10, .pointer (some ⟨WB, 0, none⟩)), (16, .slice (some ⟨hb, 0, none⟩) 8 c)] a → SS w0 w B1 H KR S → BytesAt w b o P 0 N → Ho w hb R → B1 ≤ hb → Q (.exit 12) a w) :
  (Code.loop (ssB 12)).wp Tryd.prog Q a w := by
 refine wp_loop (fun a w => ∃ (i hb c : Nat) (R : ShaSt), i ≤ 64 ∧ Is R (shaRds P p S i) ∧ SzIs a 300 ∧ DfNil a ∧ LiveAll [(0, v0), (3, .pointer (some ⟨H, 0, none⟩)), (4, .pointer (some ⟨KR, 0, none⟩)), (5, .int .i64 ((n : Nat) : Int)), (6, v6), (8, (Value.func (Fn.func 26) #[] #[])), (9, v9), (10, .pointer (some ⟨WB, 0, none⟩)), (16, .slice (some ⟨hb, 0, none⟩) 8 c), (146, .int .i64 ((i : Nat) : Int))] a ∧ SS w0 w B1 H KR S ∧ SchZ w WB P p 64 0 ∧ BytesAt w b o P 0 N ∧ Ho w hb R ∧ B1 ≤ hb)
  (fun a _ => 64 - (intOf (a.tmps.getD 146 undef)).toNat) ⟨0, hb, c, S, Nat.zero_le _, rfl, hs, hd, ⟨s0, s3, s4, s5, s6, s8, s9, s10, s16, s146, trivial⟩, hSS, hW, hM, hH, hhb⟩ ?_
 clear hs hd s0 s3 s4 s5 s6 s8 s9 s10 s16 s146 hSS hW hM hH hhb a w
 rintro a w ⟨i, hb, c, R, hi, hR, hs, hd, ⟨s0, s3, s4, s5, s6, s8, s9, s10, s16, s146, -⟩, hSS, hW, hM, hH, hhb⟩
 have hm : (intOf (a.tmps.getD 146 undef)).toNat = i := by rw [s146]; simp [intOf]
 rw [hm]
 clear hm
 by_cases h64 : i < 64
 ·have e1 : decide (i < 64) = true := decide_eq_true h64
  have e2 : decide ((i : Int) < 64) = true := decide_eq_true (by omega)
  have f4 : IntKind.i64.wrap ((i : Int) + 1) = ((i + 1 : Nat) : Int) := by rw [IntWalk.i64_in _ (by omega)]; omega
  have f5 : (i : Int) < 64 := by omega
  obtain ⟨kk, hkk⟩ : ∃ x, Is (kTab.getD i 0) x := is_self _
  obtain ⟨ww, hww⟩ : ∃ x, Is (wd P p i) x := is_self _
  conv => arg 2; whnf
  refine wp_seq ?_
  refine wp_region_list ?_
  show wpList _ _ _ [_] _ _
  refine tail_op rfl (fun K hK => ?_)
  have q146 := gd s146
  go_simp
  clear q146
  refine hK _ _ ?_
  clear hK K
  refine act_put (d := 147) _ hs hd (by decide) [(0, _), (3, _), (4, _), (5, _), (6, _), (8, _), (9, _), (10, _), (16, _), (146, _)] ⟨s0, s3, s4, s5, s6, s8, s9, s10, s16, s146, trivial⟩ rfl ?_
  clear hs hd s0 s3 s4 s5 s6 s8 s9 s10 s16 s146
  intro a hs hd zl
  refine wp_seq ?_
  refine wp_cond_true (vL zl 0) ?_
  refine wp_skip ?_
  refine wp_seq ?_
  refine wp_block ?_
  refine wp_seq ?_
  refine fl2 [.eq 148 _] 1 hs hd zl
   ⟨(stp rfl fun a u hb hs hl hd K hK => by have s146 := gL hl 10; clear hd; go_simp; exact kE hK hs),
    trivial⟩ ?_
  clear hs hd zl
  intro a w hb hs hd zl hh
  replace zl := lH hh 0 zl
  clear hh
  replace hSS := hSS.after hb
  replace hW := hW.after hb
  replace hM := hM.after hb
  replace hH := hH.after hb
  clear hb
  show wpList _ _ _ [_] _ _
  refine tail_op rfl (fun K hK => ?_)
  have q148 := gL zl 0
  go_simp
  clear q148
  refine hK _ _ (tP hs hd zl ?_)
  clear hK K hs hd zl
  intro a hs hd zl
  refine wp_seq ?_
  obtain ⟨-, -, -, -, c4, -, -, -⟩ := id hH
  refine fl2 [.eq 149 _, .eq 150 _, .eq 151 _, .eq 152 _, .eq 153 _, .eq 154 _, .eq 155 _, .eq 156 _, .eq 157 _, .eq 158 _, .eq 159 _, .eq 160 _, .eq 161 _, .eq 162 _, .eq 163 _, .eq 164 _, .eq 165 _] 17 hs hd zl
   ⟨(stp rfl fun a u hb hs hl hd K hK => by have s8 := gL hl 8; clear hd; go_simp; exact kE hK hs),
    (stp rfl fun a u hb hs hl hd K hK => by have s16 := gL hl 11; clear hd; go_simp; exact kE hK hs),
    (stp rfl fun a u hb hs hl hd K hK => by have s150 := gD hd 1; clear hd; go_simp; exact kE hK hs),
    (stp rfl fun a u hb hs hl hd K hK => by have s151 := gD hd 2; have c4 := cell_up hb c4; clear hd; go_simp; exact kE hK hs),
    (stp rfl fun a u hb hs hl hd K hK => by
     have s149 := gD hd 0
     have s152 := gD hd 3
     have c4 := cell_up hb c4
     clear hd
     go_simp; refine (c_rr6 _ _).mono ?_; rintro e w' ⟨rfl, hb2⟩; exact hK _ _ hb2 (eq_put hs (by decide))),
    (stp rfl fun a u hb hs hl hd K hK => by have s8 := gL hl 8; clear hd; go_simp; exact kE hK hs),
    (stp rfl fun a u hb hs hl hd K hK => by have s16 := gL hl 11; clear hd; go_simp; exact kE hK hs),
    (stp rfl fun a u hb hs hl hd K hK => by have s155 := gD hd 6; clear hd; go_simp; exact kE hK hs),
    (stp rfl fun a u hb hs hl hd K hK => by have s156 := gD hd 7; have c4 := cell_up hb c4; clear hd; go_simp; exact kE hK hs),
    (stp rfl fun a u hb hs hl hd K hK => by
     have s154 := gD hd 5
     have s157 := gD hd 8
     have c4 := cell_up hb c4
     clear hd
     go_simp; refine (c_rr11 _ _).mono ?_; rintro e w' ⟨rfl, hb2⟩; exact hK _ _ hb2 (eq_put hs (by decide))),
    (stp rfl fun a u hb hs hl hd K hK => by have s153 := gD hd 4; have s158 := gD hd 9; clear hd; go_simp; exact kE hK hs),
    (stp rfl fun a u hb hs hl hd K hK => by have s8 := gL hl 8; clear hd; go_simp; exact kE hK hs),
    (stp rfl fun a u hb hs hl hd K hK => by have s16 := gL hl 11; clear hd; go_simp; exact kE hK hs),
    (stp rfl fun a u hb hs hl hd K hK => by have s161 := gD hd 12; clear hd; go_simp; exact kE hK hs),
    (stp rfl fun a u hb hs hl hd K hK => by have s162 := gD hd 13; have c4 := cell_up hb c4; clear hd; go_simp; exact kE hK hs),
    (stp rfl fun a u hb hs hl hd K hK => by
     have s160 := gD hd 11
     have s163 := gD hd 14
     have c4 := cell_up hb c4
     clear hd
     go_simp; refine (c_rr25 _ _).mono ?_; rintro e w' ⟨rfl, hb2⟩; exact hK _ _ hb2 (eq_put hs (by decide))),
    (stp rfl fun a u hb hs hl hd K hK => by have s159 := gD hd 10; have s164 := gD hd 15; clear hd; go_simp; exact kE hK hs),
    trivial⟩ ?_
  clear hs hd zl
  intro a w hb hs hd zl hh
  replace zl := lH hh 16 zl
  clear hh
  replace hSS := hSS.after hb
  replace hW := hW.after hb
  replace hM := hM.after hb
  replace hH := hH.after hb
  replace c4 := cell_up hb c4
  clear hb
  show wpList _ _ _ [_] _ _
  refine tail_op rfl (fun K hK => ?_)
  have q165 := gL zl 0
  go_simp
  clear q165
  refine hK _ _ (tP hs hd zl ?_)
  clear hK K hs hd zl
  intro a hs hd zl
  obtain ⟨s18, s165, s17, -, -, s0, s3, s4, s5, s6, s8, s9, s10, s16, s146, -⟩ := zl
  replace s18 : a.tmps.getD 18 undef = .int .u32 (Sg1 R.e) := s18
  clear s165
  clear c4
  refine wp_seq ?_
  obtain ⟨-, -, -, -, c4, c5, c6, -⟩ := id hH
  refine fl2 (F := [(0, _), (3, _), (4, _), (5, _), (6, _), (8, _), (9, _), (10, _), (16, _), (17, _), (18, _), (146, _)]) [.eq 166 _, .eq 167 _, .eq 168 _, .eq 169 _, .eq 170 _, .eq 171 _, .eq 172 _, .eq 173 _, .eq 174 _, .eq 175 _, .eq 176 _, .eq 177 _, .eq 178 _, .eq 179 _, .eq 180 _, .eq 181 _] 16 hs hd ⟨s0, s3, s4, s5, s6, s8, s9, s10, s16, s17, s18, s146, trivial⟩
   ⟨(stp rfl fun a u hb hs hl hd K hK => by have s16 := gL hl 8; clear hd; go_simp; exact kE hK hs),
    (stp rfl fun a u hb hs hl hd K hK => by have s166 := gD hd 0; clear hd; go_simp; exact kE hK hs),
    (stp rfl fun a u hb hs hl hd K hK => by have s167 := gD hd 1; have c4 := cell_up hb c4; have c5 := cell_up hb c5; have c6 := cell_up hb c6; clear hd; go_simp; exact kE hK hs),
    (stp rfl fun a u hb hs hl hd K hK => by have s16 := gL hl 8; clear hd; go_simp; exact kE hK hs),
    (stp rfl fun a u hb hs hl hd K hK => by have s169 := gD hd 3; clear hd; go_simp; exact kE hK hs),
    (stp rfl fun a u hb hs hl hd K hK => by have s170 := gD hd 4; have c4 := cell_up hb c4; have c5 := cell_up hb c5; have c6 := cell_up hb c6; clear hd; go_simp; exact kE hK hs),
    (stp rfl fun a u hb hs hl hd K hK => by have s168 := gD hd 2; have s171 := gD hd 5; clear hd; go_simp; exact kE hK hs),
    (stp rfl fun a u hb hs hl hd K hK => by have s16 := gL hl 8; clear hd; go_simp; exact kE hK hs),
    (stp rfl fun a u hb hs hl hd K hK => by have s173 := gD hd 7; clear hd; go_simp; exact kE hK hs),
    (stp rfl fun a u hb hs hl hd K hK => by have s174 := gD hd 8; have c4 := cell_up hb c4; have c5 := cell_up hb c5; have c6 := cell_up hb c6; clear hd; go_simp; exact kE hK hs),
    (stp rfl fun a u hb hs hl hd K hK => by have s175 := gD hd 9; clear hd; go_simp; exact kE hK hs),
    (stp rfl fun a u hb hs hl hd K hK => by have s16 := gL hl 8; clear hd; go_simp; exact kE hK hs),
    (stp rfl fun a u hb hs hl hd K hK => by have s177 := gD hd 11; clear hd; go_simp; exact kE hK hs),
    (stp rfl fun a u hb hs hl hd K hK => by have s178 := gD hd 12; have c4 := cell_up hb c4; have c5 := cell_up hb c5; have c6 := cell_up hb c6; clear hd; go_simp; exact kE hK hs),
    (stp rfl fun a u hb hs hl hd K hK => by have s176 := gD hd 10; have s179 := gD hd 13; clear hd; go_simp; exact kE hK hs),
    (stp rfl fun a u hb hs hl hd K hK => by have s172 := gD hd 6; have s180 := gD hd 14; clear hd; go_simp; exact kE hK hs),
    trivial⟩ ?_
  clear hs hd s0 s3 s4 s5 s6 s8 s9 s10 s16 s17 s18 s146
  intro a w hb hs hd zl hh
  replace zl := lH hh 15 zl
  clear hh
  replace hSS := hSS.after hb
  replace hW := hW.after hb
  replace hM := hM.after hb
  replace hH := hH.after hb
  replace c4 := cell_up hb c4
  replace c5 := cell_up hb c5
  replace c6 := cell_up hb c6
  clear hb
  show wpList _ _ _ [_] _ _
  refine tail_op rfl (fun K hK => ?_)
  have q181 := gL zl 0
  go_simp
  clear q181
  refine hK _ _ (tP hs hd zl ?_)
  clear hK K hs hd zl
  intro a hs hd zl
  obtain ⟨s19, s181, s0, s3, s4, s5, s6, s8, s9, s10, s16, s17, s18, s146, -⟩ := zl
  replace s19 := s19.trans (congrArg (Value.int IntKind.u32) (ch_prog R.e R.f R.g))
  clear s181
  clear c4 c5 c6
  refine wp_seq ?_
  obtain ⟨-, -, -, -, -, -, -, c7⟩ := id hH
  have ck := hSS.k h64
  rw [hkk.out] at ck
  have cw := hW.word h64
  rw [hww.out] at cw
  refine fl2 (F := [(0, _), (3, _), (4, _), (5, _), (6, _), (8, _), (9, _), (10, _), (16, _), (17, _), (18, _), (19, _), (146, _)]) [.eq 182 _, .eq 183 _, .eq 184 _, .eq 185 _, .eq 186 _, .eq 187 _, .eq 188 _, .eq 189 _, .eq 190 _, .eq 191 _, .eq 192 _, .eq 193 _, .eq 194 _, .eq 195 _, .eq 196 _] 15 hs hd ⟨s0, s3, s4, s5, s6, s8, s9, s10, s16, s17, s18, s19, s146, trivial⟩
   ⟨(stp rfl fun a u hb hs hl hd K hK => by have s16 := gL hl 8; clear hd; go_simp; exact kE hK hs),
    (stp rfl fun a u hb hs hl hd K hK => by have s182 := gD hd 0; clear hd; go_simp; exact kE hK hs),
    (stp rfl fun a u hb hs hl hd K hK => by have s183 := gD hd 1; have c7 := cell_up hb c7; have ck := cell_up hb ck; have cw := cell_up hb cw; clear hd; go_simp; exact kE hK hs),
    (stp rfl fun a u hb hs hl hd K hK => by have s18 := gL hl 10; clear hd; go_simp; exact kE hK hs),
    (stp rfl fun a u hb hs hl hd K hK => by have s184 := gD hd 2; have s185 := gD hd 3; clear hd; go_simp; exact kE hK hs),
    (stp rfl fun a u hb hs hl hd K hK => by have s19 := gL hl 11; clear hd; go_simp; exact kE hK hs),
    (stp rfl fun a u hb hs hl hd K hK => by have s186 := gD hd 4; have s187 := gD hd 5; clear hd; go_simp; exact kE hK hs),
    (stp rfl fun a u hb hs hl hd K hK => by have s17 := gL hl 9; clear hd; go_simp; exact kE hK hs),
    (stp rfl fun a u hb hs hl hd K hK => by have s4 := gL hl 2; have s189 := gD hd 7; clear hd; go_simp; exact kE hK hs),
    (stp rfl fun a u hb hs hl hd K hK => by have s190 := gD hd 8; have c7 := cell_up hb c7; have ck := cell_up hb ck; have cw := cell_up hb cw; clear hd; go_simp; exact kE hK hs),
    (stp rfl fun a u hb hs hl hd K hK => by have s188 := gD hd 6; have s191 := gD hd 9; clear hd; go_simp; exact kE hK hs),
    (stp rfl fun a u hb hs hl hd K hK => by have s17 := gL hl 9; clear hd; go_simp; exact kE hK hs),
    (stp rfl fun a u hb hs hl hd K hK => by have s10 := gL hl 7; have s193 := gD hd 11; clear hd; go_simp; exact kE hK hs),
    (stp rfl fun a u hb hs hl hd K hK => by have s194 := gD hd 12; have c7 := cell_up hb c7; have ck := cell_up hb ck; have cw := cell_up hb cw; clear hd; go_simp; exact kE hK hs),
    (stp rfl fun a u hb hs hl hd K hK => by have s192 := gD hd 10; have s195 := gD hd 13; clear hd; go_simp; exact kE hK hs),
    trivial⟩ ?_
  clear hs hd s0 s3 s4 s5 s6 s8 s9 s10 s16 s17 s18 s19 s146
  intro a w hb hs hd zl hh
  replace zl := lH hh 14 zl
  clear hh
  replace hSS := hSS.after hb
  replace hW := hW.after hb
  replace hM := hM.after hb
  replace hH := hH.after hb
  replace c7 := cell_up hb c7
  replace ck := cell_up hb ck
  replace cw := cell_up hb cw
  clear hb
  show wpList _ _ _ [_] _ _
  refine tail_op rfl (fun K hK => ?_)
  have q196 := gL zl 0
  go_simp
  clear q196
  refine hK _ _ (tP hs hd zl ?_)
  clear hK K hs hd zl
  intro a hs hd zl
  obtain ⟨s20, s196, s0, s3, s4, s5, s6, s8, s9, s10, s16, s17, -, -, s146, -⟩ := zl
  replace s20 : a.tmps.getD 20 undef = .int .u32 (tOne kk ww R) := s20
  clear s196
  clear c7 ck cw
  refine wp_seq ?_
  obtain ⟨c0, -, -, -, -, -, -, -⟩ := id hH
  refine fl2 (F := [(0, _), (3, _), (4, _), (5, _), (6, _), (8, _), (9, _), (10, _), (16, _), (17, _), (20, _), (146, _)]) [.eq 197 _, .eq 198 _, .eq 199 _, .eq 200 _, .eq 201 _, .eq 202 _, .eq 203 _, .eq 204 _, .eq 205 _, .eq 206 _, .eq 207 _, .eq 208 _, .eq 209 _, .eq 210 _, .eq 211 _, .eq 212 _, .eq 213 _] 17 hs hd ⟨s0, s3, s4, s5, s6, s8, s9, s10, s16, s17, s20, s146, trivial⟩
   ⟨(stp rfl fun a u hb hs hl hd K hK => by have s8 := gL hl 5; clear hd; go_simp; exact kE hK hs),
    (stp rfl fun a u hb hs hl hd K hK => by have s16 := gL hl 8; clear hd; go_simp; exact kE hK hs),
    (stp rfl fun a u hb hs hl hd K hK => by have s198 := gD hd 1; clear hd; go_simp; exact kE hK hs),
    (stp rfl fun a u hb hs hl hd K hK => by have s199 := gD hd 2; have c0 := cell_up hb c0; clear hd; go_simp; exact kE hK hs),
    (stp rfl fun a u hb hs hl hd K hK => by
     have s197 := gD hd 0
     have s200 := gD hd 3
     have c0 := cell_up hb c0
     clear hd
     go_simp; refine (c_rr2 _ _).mono ?_; rintro e w' ⟨rfl, hb2⟩; exact hK _ _ hb2 (eq_put hs (by decide))),
    (stp rfl fun a u hb hs hl hd K hK => by have s8 := gL hl 5; clear hd; go_simp; exact kE hK hs),
    (stp rfl fun a u hb hs hl hd K hK => by have s16 := gL hl 8; clear hd; go_simp; exact kE hK hs),
    (stp rfl fun a u hb hs hl hd K hK => by have s203 := gD hd 6; clear hd; go_simp; exact kE hK hs),
    (stp rfl fun a u hb hs hl hd K hK => by have s204 := gD hd 7; have c0 := cell_up hb c0; clear hd; go_simp; exact kE hK hs),
    (stp rfl fun a u hb hs hl hd K hK => by
     have s202 := gD hd 5
     have s205 := gD hd 8
     have c0 := cell_up hb c0
     clear hd
     go_simp; refine (c_rr13 _ _).mono ?_; rintro e w' ⟨rfl, hb2⟩; exact hK _ _ hb2 (eq_put hs (by decide))),
    (stp rfl fun a u hb hs hl hd K hK => by have s201 := gD hd 4; have s206 := gD hd 9; clear hd; go_simp; exact kE hK hs),
    (stp rfl fun a u hb hs hl hd K hK => by have s8 := gL hl 5; clear hd; go_simp; exact kE hK hs),
    (stp rfl fun a u hb hs hl hd K hK => by have s16 := gL hl 8; clear hd; go_simp; exact kE hK hs),
    (stp rfl fun a u hb hs hl hd K hK => by have s209 := gD hd 12; clear hd; go_simp; exact kE hK hs),
    (stp rfl fun a u hb hs hl hd K hK => by have s210 := gD hd 13; have c0 := cell_up hb c0; clear hd; go_simp; exact kE hK hs),
    (stp rfl fun a u hb hs hl hd K hK => by
     have s208 := gD hd 11
     have s211 := gD hd 14
     have c0 := cell_up hb c0
     clear hd
     go_simp; refine (c_rr22 _ _).mono ?_; rintro e w' ⟨rfl, hb2⟩; exact hK _ _ hb2 (eq_put hs (by decide))),
    (stp rfl fun a u hb hs hl hd K hK => by have s207 := gD hd 10; have s212 := gD hd 15; clear hd; go_simp; exact kE hK hs),
    trivial⟩ ?_
  clear hs hd s0 s3 s4 s5 s6 s8 s9 s10 s16 s17 s20 s146
  intro a w hb hs hd zl hh
  replace zl := lH hh 16 zl
  clear hh
  replace hSS := hSS.after hb
  replace hW := hW.after hb
  replace hM := hM.after hb
  replace hH := hH.after hb
  replace c0 := cell_up hb c0
  clear hb
  show wpList _ _ _ [_] _ _
  refine tail_op rfl (fun K hK => ?_)
  have q213 := gL zl 0
  go_simp
  clear q213
  refine hK _ _ (tP hs hd zl ?_)
  clear hK K hs hd zl
  intro a hs hd zl
  obtain ⟨s21, s213, s0, s3, s4, s5, s6, s8, s9, s10, s16, s17, s20, s146, -⟩ := zl
  replace s21 : a.tmps.getD 21 undef = .int .u32 (Sg0 R.a) := s21
  clear s213
  clear c0
  refine wp_seq ?_
  obtain ⟨c0, c1, c2, -, -, -, -, -⟩ := id hH
  refine fl2 (F := [(0, _), (3, _), (4, _), (5, _), (6, _), (8, _), (9, _), (10, _), (16, _), (17, _), (20, _), (21, _), (146, _)]) [.eq 214 _, .eq 215 _, .eq 216 _, .eq 217 _, .eq 218 _, .eq 219 _, .eq 220 _, .eq 221 _, .eq 222 _, .eq 223 _, .eq 224 _, .eq 225 _, .eq 226 _, .eq 227 _, .eq 228 _, .eq 229 _, .eq 230 _, .eq 231 _, .eq 232 _, .eq 233 _, .eq 234 _, .eq 235 _, .eq 236 _] 23 hs hd ⟨s0, s3, s4, s5, s6, s8, s9, s10, s16, s17, s20, s21, s146, trivial⟩
   ⟨(stp rfl fun a u hb hs hl hd K hK => by have s16 := gL hl 8; clear hd; go_simp; exact kE hK hs),
    (stp rfl fun a u hb hs hl hd K hK => by have s214 := gD hd 0; clear hd; go_simp; exact kE hK hs),
    (stp rfl fun a u hb hs hl hd K hK => by have s215 := gD hd 1; have c0 := cell_up hb c0; have c1 := cell_up hb c1; have c2 := cell_up hb c2; clear hd; go_simp; exact kE hK hs),
    (stp rfl fun a u hb hs hl hd K hK => by have s16 := gL hl 8; clear hd; go_simp; exact kE hK hs),
    (stp rfl fun a u hb hs hl hd K hK => by have s217 := gD hd 3; clear hd; go_simp; exact kE hK hs),
    (stp rfl fun a u hb hs hl hd K hK => by have s218 := gD hd 4; have c0 := cell_up hb c0; have c1 := cell_up hb c1; have c2 := cell_up hb c2; clear hd; go_simp; exact kE hK hs),
    (stp rfl fun a u hb hs hl hd K hK => by have s216 := gD hd 2; have s219 := gD hd 5; clear hd; go_simp; exact kE hK hs),
    (stp rfl fun a u hb hs hl hd K hK => by have s16 := gL hl 8; clear hd; go_simp; exact kE hK hs),
    (stp rfl fun a u hb hs hl hd K hK => by have s221 := gD hd 7; clear hd; go_simp; exact kE hK hs),
    (stp rfl fun a u hb hs hl hd K hK => by have s222 := gD hd 8; have c0 := cell_up hb c0; have c1 := cell_up hb c1; have c2 := cell_up hb c2; clear hd; go_simp; exact kE hK hs),
    (stp rfl fun a u hb hs hl hd K hK => by have s16 := gL hl 8; clear hd; go_simp; exact kE hK hs),
    (stp rfl fun a u hb hs hl hd K hK => by have s224 := gD hd 10; clear hd; go_simp; exact kE hK hs),
    (stp rfl fun a u hb hs hl hd K hK => by have s225 := gD hd 11; have c0 := cell_up hb c0; have c1 := cell_up hb c1; have c2 := cell_up hb c2; clear hd; go_simp; exact kE hK hs),
    (stp rfl fun a u hb hs hl hd K hK => by have s223 := gD hd 9; have s226 := gD hd 12; clear hd; go_simp; exact kE hK hs),
    (stp rfl fun a u hb hs hl hd K hK => by have s220 := gD hd 6; have s227 := gD hd 13; clear hd; go_simp; exact kE hK hs),
    (stp rfl fun a u hb hs hl hd K hK => by have s16 := gL hl 8; clear hd; go_simp; exact kE hK hs),
    (stp rfl fun a u hb hs hl hd K hK => by have s229 := gD hd 15; clear hd; go_simp; exact kE hK hs),
    (stp rfl fun a u hb hs hl hd K hK => by have s230 := gD hd 16; have c0 := cell_up hb c0; have c1 := cell_up hb c1; have c2 := cell_up hb c2; clear hd; go_simp; exact kE hK hs),
    (stp rfl fun a u hb hs hl hd K hK => by have s16 := gL hl 8; clear hd; go_simp; exact kE hK hs),
    (stp rfl fun a u hb hs hl hd K hK => by have s232 := gD hd 18; clear hd; go_simp; exact kE hK hs),
    (stp rfl fun a u hb hs hl hd K hK => by have s233 := gD hd 19; have c0 := cell_up hb c0; have c1 := cell_up hb c1; have c2 := cell_up hb c2; clear hd; go_simp; exact kE hK hs),
    (stp rfl fun a u hb hs hl hd K hK => by have s231 := gD hd 17; have s234 := gD hd 20; clear hd; go_simp; exact kE hK hs),
    (stp rfl fun a u hb hs hl hd K hK => by have s228 := gD hd 14; have s235 := gD hd 21; clear hd; go_simp; exact kE hK hs),
    trivial⟩ ?_
  clear hs hd s0 s3 s4 s5 s6 s8 s9 s10 s16 s17 s20 s21 s146
  intro a w hb hs hd zl hh
  replace zl := lH hh 22 zl
  clear hh
  replace hSS := hSS.after hb
  replace hW := hW.after hb
  replace hM := hM.after hb
  replace hH := hH.after hb
  replace c0 := cell_up hb c0
  replace c1 := cell_up hb c1
  replace c2 := cell_up hb c2
  clear hb
  show wpList _ _ _ [_] _ _
  refine tail_op rfl (fun K hK => ?_)
  have q236 := gL zl 0
  go_simp
  clear q236
  refine hK _ _ (tP hs hd zl ?_)
  clear hK K hs hd zl
  intro a hs hd zl
  obtain ⟨s22, s236, s0, s3, s4, s5, s6, s8, s9, s10, s16, s17, s20, s21, s146, -⟩ := zl
  replace s22 : a.tmps.getD 22 undef = .int .u32 (xor32 (xor32 (and32 R.a R.b) (and32 R.a R.c)) (and32 R.b R.c)) := s22
  clear s236
  clear c0 c1 c2
  obtain ⟨c0, c1, c2, c3, c4, c5, c6, -⟩ := id hH
  refine fl2 (F := [(0, _), (3, _), (4, _), (5, _), (6, _), (8, _), (9, _), (10, _), (16, _), (17, _), (20, _), (21, _), (22, _), (146, _)]) [.eq 237 _, .eq 238 _, .eq 239 _, .eq 240 _, .eq 241 _, .eq 242 _, .eq 243 _, .eq 244 _, .eq 245 _, .eq 246 _, .eq 247 _, .eq 248 _, .eq 249 _, .eq 250 _, .eq 251 _, .eq 252 _, .eq 253 _, .eq 254 _, .eq 255 _, .eq 256 _, .eq 257 _, .eq 258 _, .eq 259 _, .eq 260 _, .eq 261 _, .eq 262 _, .eq 263 _, .eq 264 _] 28 hs hd ⟨s0, s3, s4, s5, s6, s8, s9, s10, s16, s17, s20, s21, s22, s146, trivial⟩
   ⟨(stp rfl fun a u hb hs hl hd K hK => by have s20 := gL hl 10; clear hd; go_simp; exact kE hK hs),
    (stp rfl fun a u hb hs hl hd K hK => by have s21 := gL hl 11; clear hd; go_simp; exact kE hK hs),
    (stp rfl fun a u hb hs hl hd K hK => by have s237 := gD hd 0; have s238 := gD hd 1; clear hd; go_simp; exact kE hK hs),
    (stp rfl fun a u hb hs hl hd K hK => by have s22 := gL hl 12; clear hd; go_simp; exact kE hK hs),
    (stp rfl fun a u hb hs hl hd K hK => by have s239 := gD hd 2; have s240 := gD hd 3; clear hd; go_simp; exact kE hK hs),
    (stp rfl fun a u hb hs hl hd K hK => by have s16 := gL hl 8; clear hd; go_simp; exact kE hK hs),
    (stp rfl fun a u hb hs hl hd K hK => by have s242 := gD hd 5; clear hd; go_simp; exact kE hK hs),
    (stp rfl fun a u hb hs hl hd K hK => by have s243 := gD hd 6; have c0 := cell_up hb c0; have c1 := cell_up hb c1; have c2 := cell_up hb c2; have c3 := cell_up hb c3; have c4 := cell_up hb c4; have c5 := cell_up hb c5; have c6 := cell_up hb c6; clear hd; go_simp; exact kE hK hs),
    (stp rfl fun a u hb hs hl hd K hK => by have s16 := gL hl 8; clear hd; go_simp; exact kE hK hs),
    (stp rfl fun a u hb hs hl hd K hK => by have s245 := gD hd 8; clear hd; go_simp; exact kE hK hs),
    (stp rfl fun a u hb hs hl hd K hK => by have s246 := gD hd 9; have c0 := cell_up hb c0; have c1 := cell_up hb c1; have c2 := cell_up hb c2; have c3 := cell_up hb c3; have c4 := cell_up hb c4; have c5 := cell_up hb c5; have c6 := cell_up hb c6; clear hd; go_simp; exact kE hK hs),
    (stp rfl fun a u hb hs hl hd K hK => by have s16 := gL hl 8; clear hd; go_simp; exact kE hK hs),
    (stp rfl fun a u hb hs hl hd K hK => by have s248 := gD hd 11; clear hd; go_simp; exact kE hK hs),
    (stp rfl fun a u hb hs hl hd K hK => by have s249 := gD hd 12; have c0 := cell_up hb c0; have c1 := cell_up hb c1; have c2 := cell_up hb c2; have c3 := cell_up hb c3; have c4 := cell_up hb c4; have c5 := cell_up hb c5; have c6 := cell_up hb c6; clear hd; go_simp; exact kE hK hs),
    (stp rfl fun a u hb hs hl hd K hK => by have s16 := gL hl 8; clear hd; go_simp; exact kE hK hs),
    (stp rfl fun a u hb hs hl hd K hK => by have s251 := gD hd 14; clear hd; go_simp; exact kE hK hs),
    (stp rfl fun a u hb hs hl hd K hK => by have s252 := gD hd 15; have c0 := cell_up hb c0; have c1 := cell_up hb c1; have c2 := cell_up hb c2; have c3 := cell_up hb c3; have c4 := cell_up hb c4; have c5 := cell_up hb c5; have c6 := cell_up hb c6; clear hd; go_simp; exact kE hK hs),
    (stp rfl fun a u hb hs hl hd K hK => by have s20 := gL hl 10; clear hd; go_simp; exact kE hK hs),
    (stp rfl fun a u hb hs hl hd K hK => by have s253 := gD hd 16; have s254 := gD hd 17; clear hd; go_simp; exact kE hK hs),
    (stp rfl fun a u hb hs hl hd K hK => by have s16 := gL hl 8; clear hd; go_simp; exact kE hK hs),
    (stp rfl fun a u hb hs hl hd K hK => by have s256 := gD hd 19; clear hd; go_simp; exact kE hK hs),
    (stp rfl fun a u hb hs hl hd K hK => by have s257 := gD hd 20; have c0 := cell_up hb c0; have c1 := cell_up hb c1; have c2 := cell_up hb c2; have c3 := cell_up hb c3; have c4 := cell_up hb c4; have c5 := cell_up hb c5; have c6 := cell_up hb c6; clear hd; go_simp; exact kE hK hs),
    (stp rfl fun a u hb hs hl hd K hK => by have s16 := gL hl 8; clear hd; go_simp; exact kE hK hs),
    (stp rfl fun a u hb hs hl hd K hK => by have s259 := gD hd 22; clear hd; go_simp; exact kE hK hs),
    (stp rfl fun a u hb hs hl hd K hK => by have s260 := gD hd 23; have c0 := cell_up hb c0; have c1 := cell_up hb c1; have c2 := cell_up hb c2; have c3 := cell_up hb c3; have c4 := cell_up hb c4; have c5 := cell_up hb c5; have c6 := cell_up hb c6; clear hd; go_simp; exact kE hK hs),
    (stp rfl fun a u hb hs hl hd K hK => by have s16 := gL hl 8; clear hd; go_simp; exact kE hK hs),
    (stp rfl fun a u hb hs hl hd K hK => by have s262 := gD hd 25; clear hd; go_simp; exact kE hK hs),
    (stp rfl fun a u hb hs hl hd K hK => by have s263 := gD hd 26; have c0 := cell_up hb c0; have c1 := cell_up hb c1; have c2 := cell_up hb c2; have c3 := cell_up hb c3; have c4 := cell_up hb c4; have c5 := cell_up hb c5; have c6 := cell_up hb c6; clear hd; go_simp; exact kE hK hs),
    trivial⟩ ?_
  clear hs hd s0 s3 s4 s5 s6 s8 s9 s10 s16 s17 s20 s21 s22 s146
  intro a w hb hs hd zl hh
  replace zl := lH hh 4 zl
  replace zl := lH hh 7 zl
  replace zl := lH hh 10 zl
  replace zl := lH hh 13 zl
  replace zl := lH hh 18 zl
  replace zl := lH hh 21 zl
  replace zl := lH hh 24 zl
  replace zl := lH hh 27 zl
  clear hh
  replace hSS := hSS.after hb
  replace hW := hW.after hb
  replace hM := hM.after hb
  replace hH := hH.after hb
  replace c0 := cell_up hb c0
  replace c1 := cell_up hb c1
  replace c2 := cell_up hb c2
  replace c3 := cell_up hb c3
  replace c4 := cell_up hb c4
  replace c5 := cell_up hb c5
  replace c6 := cell_up hb c6
  clear hb
  show wpList _ _ _ [_, _] _ _
  refine tail_op rfl (fun K hK => ?_)
  have q241 := gL zl 7
  have q244 := gL zl 6
  have q247 := gL zl 5
  have q250 := gL zl 4
  have q255 := gL zl 3
  have q258 := gL zl 2
  have q261 := gL zl 1
  have q264 := gL zl 0
  obtain ⟨R', hR'⟩ : ∃ R', Is (shaRnd kk ww R) R' := is_self _
  obtain ⟨s264, s261, s258, s255, s250, s247, s244, s241, s0, s3, s4, s5, s6, s8, s9, s10, s16, -, -, -, -, s146, -⟩ := zl
  replace s241 : a.tmps.getD 241 undef = .int .u32 R'.a := s241.trans (by rw [← hR'.out]; exact congrArg (Value.int .u32) (add32_assoc _ _ _))
  replace s244 : a.tmps.getD 244 undef = .int .u32 R'.b := s244.trans (by rw [← hR'.out]; rfl)
  replace s247 : a.tmps.getD 247 undef = .int .u32 R'.c := s247.trans (by rw [← hR'.out]; rfl)
  replace s250 : a.tmps.getD 250 undef = .int .u32 R'.d := s250.trans (by rw [← hR'.out]; rfl)
  replace s255 : a.tmps.getD 255 undef = .int .u32 R'.e := s255.trans (by rw [← hR'.out]; rfl)
  replace s258 : a.tmps.getD 258 undef = .int .u32 R'.f := s258.trans (by rw [← hR'.out]; rfl)
  replace s261 : a.tmps.getD 261 undef = .int .u32 R'.g := s261.trans (by rw [← hR'.out]; rfl)
  replace s264 : a.tmps.getD 264 undef = .int .u32 R'.h := s264.trans (by rw [← hR'.out]; rfl)
  replace q241 := gd s241
  replace q244 := gd s244
  replace q247 := gd s247
  replace q250 := gd s250
  replace q255 := gd s255
  replace q258 := gd s258
  replace q261 := gd s261
  replace q264 := gd s264
  go_simp
  clear q241 q244 q247 q250 q255 q258 q261 q264
  refine hK _ _ ?_
  clear hK K
  refine act_put (d := 265) _ hs hd (by decide) [(0, _), (3, _), (4, _), (5, _), (6, _), (8, _), (9, _), (10, _), (16, _), (146, _), (241, _), (244, _), (247, _), (250, _), (255, _), (258, _), (261, _), (264, _)] ⟨s0, s3, s4, s5, s6, s8, s9, s10, s16, s146, s241, s244, s247, s250, s255, s258, s261, s264, trivial⟩ rfl ?_
  clear hs hd s0 s3 s4 s5 s6 s8 s9 s10 s16 s146 s241 s244 s247 s250 s255 s258 s261 s264
  intro a hs hd zl
  obtain ⟨h2, hE⟩ : ∃ h2, Is w.heap.size h2 := is_self _
  generalize hw1 : World.alloc w _ = w1
  have hB1 : Below w.heap.size w w1 := by rw [← hw1]; exact bz_alloc (bz_refl w) _
  have hhb2 : B1 ≤ h2 := by rw [← hE.out]; exact hSS.2.2.2.2.2.2.2.2
  have hH2 : Ho w1 h2 R' := by rw [← hw1, ← hE.out]; exact Ho.new (Blk.new w _ (st8 R'))
  replace hSS := hSS.after hB1
  replace hW := hW.after hB1
  replace hM := hM.after hB1
  obtain ⟨s265, s0, s3, s4, s5, s6, s8, s9, s10, s16, s146, s241, s244, s247, s250, s255, s258, s261, s264, -⟩ := zl
  rw [hE.out] at s265
  clear hw1 hB1 hE hH
  refine tail_op rfl (fun K hK => ?_)
  have q265 := gd s265
  go_simp
  clear q265
  refine hK _ _ ?_
  clear hK K
  refine act_put (d := 16) _ hs hd (by decide) [(0, _), (3, _), (4, _), (5, _), (6, _), (8, _), (9, _), (10, _), (146, _), (241, _), (244, _), (247, _), (250, _), (255, _), (258, _), (261, _), (264, _), (265, _)] ⟨s0, s3, s4, s5, s6, s8, s9, s10, s146, s241, s244, s247, s250, s255, s258, s261, s264, s265, trivial⟩ rfl ?_
  clear hs hd s0 s3 s4 s5 s6 s8 s9 s10 s16 s146 s241 s244 s247 s250 s255 s258 s261 s264 s265
  intro a hs hd zl
  clear c0 c1 c2 c3 c4 c5 c6
  refine fl2 [.eq 266 _] 1 hs hd zl
   ⟨(stp rfl fun a u hb hs hl hd K hK => by have s146 := gL hl 9; clear hd; go_simp; exact kE hK hs),
    trivial⟩ ?_
  clear hs hd zl
  intro a w hb hs hd zl hh
  replace zl := lH hh 0 zl
  clear hh
  replace hSS := hSS.after hb
  replace hW := hW.after hb
  replace hM := hM.after hb
  replace hH2 := hH2.after hb
  clear hb
  show wpList _ _ _ [_] _ _
  refine tail_op rfl (fun K hK => ?_)
  have q266 := gL zl 0
  go_simp
  clear q266
  refine hK _ _ ?_
  clear hK K
  obtain ⟨s266, s16, s0, s3, s4, s5, s6, s8, s9, s10, s146, -, -, -, -, -, -, -, -, -, -⟩ := zl
  refine act_put (d := 146) _ hs hd (by decide) [(0, _), (3, _), (4, _), (5, _), (6, _), (8, _), (9, _), (10, _), (16, _), (266, _)] ⟨s0, s3, s4, s5, s6, s8, s9, s10, s16, s266, trivial⟩ rfl ?_
  clear hs hd s0 s3 s4 s5 s6 s8 s9 s10 s16 s146 s266
  intro a hs hd zl
  obtain ⟨s146, s0, s3, s4, s5, s6, s8, s9, s10, s16, s266, -⟩ := zl
  refine ⟨⟨i + 1, h2, 8, R', by omega, ?_, hs, hd, ⟨s0, s3, s4, s5, s6, s8, s9, s10, s16, s146, trivial⟩, hSS, hW, hM, hH2, hhb2⟩, ?_⟩
  ·unfold Is; rw [← hR'.out, ← hkk.out, ← hww.out, hR.out]; rfl
  ·rw [s146]
   simp [intOf]
   omega
 ·obtain rfl : i = 64 := by omega
  have e1 : decide ((64 : Nat) < 64) = false := by decide
  conv => arg 2; whnf
  refine wp_seq ?_
  refine wp_region_list ?_
  show wpList _ _ _ [_] _ _
  refine tail_op rfl (fun K hK => ?_)
  have q146 := gd s146
  go_simp
  clear q146
  refine hK _ _ ?_
  clear hK K
  refine act_put (d := 147) _ hs hd (by decide) [(0, _), (3, _), (4, _), (5, _), (6, _), (8, _), (9, _), (10, _), (16, _), (146, _)] ⟨s0, s3, s4, s5, s6, s8, s9, s10, s16, s146, trivial⟩ rfl ?_
  clear hs hd s0 s3 s4 s5 s6 s8 s9 s10 s16 s146
  intro a hs hd zl
  refine wp_seq ?_
  refine wp_cond_false (vL zl 0) ?_
  refine wp_exit ?_
  obtain ⟨s147, s0, s3, s4, s5, s6, s8, s9, s10, s16, s146, -⟩ := zl
  exact hQ a w hb c R hR hs hd ⟨s0, s3, s4, s5, s6, s8, s9, s10, s16, trivial⟩ hSS hM hH hhb
end Go.Proofs.YtcmllcmcbamlbaaDoor
namespace Go.Proofs.YtcmllcmcbamlbaaDoor
open Go.RowKit
/-- i of the eight summed. -/
def addK (S R : ShaSt) (i : Nat) : ShaSt :=
 { a := if 0 < i then add32 S.a R.a else S.a, b := if 1 < i then add32 S.b R.b else S.b, c := if 2 < i then add32 S.c R.c else S.c, d := if 3 < i then add32 S.d R.d else S.d, e := if 4 < i then add32 S.e R.e else S.e, f := if 5 < i then add32 S.f R.f else S.f, g := if 6 < i then add32 S.g R.g else S.g, h := if 7 < i then add32 S.h R.h else S.h }
theorem addK_zero (S R : ShaSt) : addK S R 0 = S := rfl
theorem addK_all (S R : ShaSt) : addK S R 8 = addSt S R := rfl
def nth8 (S : ShaSt) (i : Nat) : Int := [S.a, S.b, S.c, S.d, S.e, S.f, S.g, S.h].getD i 0
theorem addK_get (S R : ShaSt) {i : Nat} (h : i < 8) : (st8 (addK S R i))[i]? = some (.int .u32 (nth8 S i)) := by
 rcases (by omega : i = 0 ∨ i = 1 ∨ i = 2 ∨ i = 3 ∨ i = 4 ∨ i = 5 ∨ i = 6 ∨ i = 7) with rfl | rfl | rfl | rfl | rfl | rfl | rfl | rfl <;> rfl
theorem addK_set (S R : ShaSt) {i : Nat} (h : i < 8) : (st8 (addK S R i)).setIfInBounds i (.int .u32 (add32 (nth8 S i) (nth8 R i))) = st8 (addK S R (i + 1)) := by
 rcases (by omega : i = 0 ∨ i = 1 ∨ i = 2 ∨ i = 3 ∨ i = 4 ∨ i = 5 ∨ i = 6 ∨ i = 7) with rfl | rfl | rfl | rfl | rfl | rfl | rfl | rfl <;> rfl
theorem Ho.get {w : World} {hb : Nat} {R : ShaSt} (h : Ho w hb R) {i : Nat} (hi : i < 8) : w.cell? ⟨hb, i, none⟩ = some (.int .u32 (nth8 R i)) := by
 obtain ⟨h0, h1, h2, h3, h4, h5, h6, h7⟩ := h
 rcases (by omega : i = 0 ∨ i = 1 ∨ i = 2 ∨ i = 3 ∨ i = 4 ∨ i = 5 ∨ i = 6 ∨ i = 7) with rfl | rfl | rfl | rfl | rfl | rfl | rfl | rfl <;> assumption
theorem Ho.gb {w w' : World} {hb H : Nat} {R : ShaSt} (h : Ho w hb R) (hg : GB w w' H) (hn : hb ≠ H) : Ho w' hb R := by
 obtain ⟨h0, h1, h2, h3, h4, h5, h6, h7⟩ := h
 exact ⟨(gb_cell hg (World.block_lt_of_cell? w _ h0) (by simpa using hn)).trans h0, (gb_cell hg (World.block_lt_of_cell? w _ h1) (by simpa using hn)).trans h1, (gb_cell hg (World.block_lt_of_cell? w _ h2) (by simpa using hn)).trans h2, (gb_cell hg (World.block_lt_of_cell? w _ h3) (by simpa using hn)).trans h3, (gb_cell hg (World.block_lt_of_cell? w _ h4) (by simpa using hn)).trans h4, (gb_cell hg (World.block_lt_of_cell? w _ h5) (by simpa using hn)).trans h5, (gb_cell hg (World.block_lt_of_cell? w _ h6) (by simpa using hn)).trans h6, (gb_cell hg (World.block_lt_of_cell? w _ h7) (by simpa using hn)).trans h7⟩
theorem SS.put {w0 w : World} {B1 H KR : Nat} {S S' : ShaSt} (h : SS w0 w B1 H KR S) {i : Nat} {v : Value} (he : (st8 S).setIfInBounds i v = st8 S') : SS w0 (w.setCell ⟨H, i, none⟩ v) B1 H KR S' := by
 obtain ⟨h1, h2, h3, h4, h5, h6, h7, h8, h9⟩ := h
 refine ⟨GB.below2 h1 (gb1 w H i v) h4, ?_, h3.gbfar (gb1 w H i v) h6, h4, h5, h6, h7, h8, Nat.le_trans h9 (gb1 w H i v).size⟩
 rw [← he]
 exact h2.set_ i v

set_option maxHeartbeats 4000000 in
set_option maxRecDepth 100000 in
theorem ss_end {Q : Exit → Act → World → Prop} {B1 H KR n b o N hb c : Nat} {v0 v6 v9 : Value} {S R : ShaSt} {w0 : World} {P : List Int} (a : Act) (w : World) (hs : SzIs a 300) (hd : DfNil a)
  (s0 : a.tmps.getD 0 undef = v0) (s3 : a.tmps.getD 3 undef = .pointer (some ⟨H, 0, none⟩)) (s4 : a.tmps.getD 4 undef = .pointer (some ⟨KR, 0, none⟩)) (s5 : a.tmps.getD 5 undef = .int .i64 ((n : Nat) : Int)) (s6 : a.tmps.getD 6 undef = v6) (s8 : a.tmps.getD 8 undef = (Value.func (Fn.func 26) #[] #[])) (s9 : a.tmps.getD 9 undef = v9) (s16 : a.tmps.getD 16 undef = .slice (some ⟨hb, 0, none⟩) 8 c) (s267 : a.tmps.getD 267 undef = .int .i64 0)
  (hSS : SS w0 w B1 H KR S) (hM : BytesAt w b o P 0 N) (hH : Ho w hb R) (hhb : B1 ≤ hb) (hbb : B1 ≤ b)
  (hQ : ∀ (a : Act) (w : World), SzIs a 300 → DfNil a → LiveAll [(0, v0), (3, .pointer (some ⟨H, 0, none⟩)), (4, .pointer (some ⟨KR, 0, none⟩)), (5, .int .i64 ((n : Nat) : Int)), (6, v6), (8, (Value.func (Fn.func 26) #[] #[])), (9, v9)] a → SS w0 w B1 H KR (addSt S R) → BytesAt w b o P 0 N → Q (.exit 14) a w) :
  (Code.loop (ssB 14)).wp Tryd.prog Q a w := by
 have hHb := hSS.2.2.2.2.2.2.1
 refine wp_loop (fun a w => ∃ i : Nat, i ≤ 8 ∧ SzIs a 300 ∧ DfNil a ∧ LiveAll [(0, v0), (3, .pointer (some ⟨H, 0, none⟩)), (4, .pointer (some ⟨KR, 0, none⟩)), (5, .int .i64 ((n : Nat) : Int)), (6, v6), (8, (Value.func (Fn.func 26) #[] #[])), (9, v9), (16, .slice (some ⟨hb, 0, none⟩) 8 c), (267, .int .i64 ((i : Nat) : Int))] a ∧ SS w0 w B1 H KR (addK S R i) ∧ BytesAt w b o P 0 N ∧ Ho w hb R)
  (fun a _ => 8 - (intOf (a.tmps.getD 267 undef)).toNat) ⟨0, Nat.zero_le _, hs, hd, ⟨s0, s3, s4, s5, s6, s8, s9, s16, s267, trivial⟩, hSS, hM, hH⟩ ?_
 clear hs hd s0 s3 s4 s5 s6 s8 s9 s16 s267 hSS hM hH a w
 rintro a w ⟨i, hi, hs, hd, ⟨s0, s3, s4, s5, s6, s8, s9, s16, s267, -⟩, hSS, hM, hH⟩
 have hm : (intOf (a.tmps.getD 267 undef)).toNat = i := by rw [s267]; simp [intOf]
 rw [hm]
 clear hm
 by_cases h8 : i < 8
 ·have e1 : decide (i < 8) = true := decide_eq_true h8
  have e2 : decide ((i : Int) < 8) = true := decide_eq_true (by omega)
  have f4 : IntKind.i64.wrap ((i : Int) + 1) = ((i + 1 : Nat) : Int) := by rw [IntWalk.i64_in _ (by omega)]; omega
  have f5 : (i : Int) < 8 := by omega
  have hnH : hb ≠ H := by omega
  have hnb : b ≠ H := by omega
  clear hHb hhb hbb
  conv => arg 2; whnf
  refine wp_seq ?_
  refine wp_region_list ?_
  show wpList _ _ _ [_] _ _
  refine tail_op rfl (fun K hK => ?_)
  have q267 := gd s267
  go_simp
  clear q267
  refine hK _ _ ?_
  clear hK K
  refine act_put (d := 268) _ hs hd (by decide) [(0, _), (3, _), (4, _), (5, _), (6, _), (8, _), (9, _), (16, _), (267, _)] ⟨s0, s3, s4, s5, s6, s8, s9, s16, s267, trivial⟩ rfl ?_
  clear hs hd s0 s3 s4 s5 s6 s8 s9 s16 s267
  intro a hs hd zl
  refine wp_seq ?_
  refine wp_cond_true (vL zl 0) ?_
  refine wp_skip ?_
  refine wp_seq ?_
  refine wp_block ?_
  refine wp_seq ?_
  refine fl2 [.eq 269 _] 1 hs hd zl
   ⟨(stp rfl fun a u hb hs hl hd K hK => by have s267 := gL hl 9; clear hd; go_simp; exact kE hK hs),
    trivial⟩ ?_
  clear hs hd zl
  intro a w hb hs hd zl hh
  replace zl := lH hh 0 zl
  clear hh
  replace hSS := hSS.after hb
  replace hM := hM.after hb
  replace hH := hH.after hb
  clear hb
  show wpList _ _ _ [_] _ _
  refine tail_op rfl (fun K hK => ?_)
  have q269 := gL zl 0
  go_simp
  clear q269
  refine hK _ _ (tP hs hd zl ?_)
  clear hK K hs hd zl
  intro a hs hd zl
  obtain ⟨xs, hxs⟩ : ∃ x, Is (nth8 S i) x := is_self _
  obtain ⟨xr, hxr⟩ : ∃ x, Is (nth8 R i) x := is_self _
  have cH : w.cell? ⟨H, i, none⟩ = some (.int .u32 xs) := by rw [hSS.2.1.cell, addK_get S R h8, hxs.out]
  have ch : w.cell? ⟨hb, i, none⟩ = some (.int .u32 xr) := by rw [hH.get h8, hxr.out]
  refine fl2 [.eq 270 _, .eq 271 _, .eq 272 _, .eq 273 _, .eq 274 _, .eq 275 _, .eq 276 _, .eq 277 _, .eq 278 _] 9 hs hd zl
   ⟨(stp rfl fun a u hb hs hl hd K hK => by have s23 := gL hl 0; clear hd; go_simp; exact kE hK hs),
    (stp rfl fun a u hb hs hl hd K hK => by have s3 := gL hl 4; have s270 := gD hd 0; clear hd; go_simp; exact kE hK hs),
    (stp rfl fun a u hb hs hl hd K hK => by have s271 := gD hd 1; have cH := cell_up hb cH; have ch := cell_up hb ch; clear hd; go_simp; exact kE hK hs),
    (stp rfl fun a u hb hs hl hd K hK => by have s16 := gL hl 10; clear hd; go_simp; exact kE hK hs),
    (stp rfl fun a u hb hs hl hd K hK => by have s23 := gL hl 0; clear hd; go_simp; exact kE hK hs),
    (stp rfl fun a u hb hs hl hd K hK => by have s273 := gD hd 3; have s274 := gD hd 4; clear hd; go_simp; exact kE hK hs),
    (stp rfl fun a u hb hs hl hd K hK => by have s275 := gD hd 5; have cH := cell_up hb cH; have ch := cell_up hb ch; clear hd; go_simp; exact kE hK hs),
    (stp rfl fun a u hb hs hl hd K hK => by have s272 := gD hd 2; have s276 := gD hd 6; clear hd; go_simp; exact kE hK hs),
    (stp rfl fun a u hb hs hl hd K hK => by have s3 := gL hl 4; have s270 := gD hd 0; clear hd; go_simp; exact kE hK hs),
    trivial⟩ ?_
  clear hs hd zl
  intro a w hb hs hd zl hh
  replace zl := lH hh 7 zl
  replace zl := lH hh 8 zl
  clear hh
  replace hSS := hSS.after hb
  replace hM := hM.after hb
  replace hH := hH.after hb
  replace cH := cell_up hb cH
  replace ch := cell_up hb ch
  clear hb
  show wpList _ _ _ [_] _ _
  refine tail_op rfl (fun K hK => ?_)
  have q277 := gL zl 1
  have q278 := gL zl 0
  obtain ⟨z, hz⟩ : ∃ z, Is (add32 xs xr) z := is_self _
  obtain ⟨s278, s277, -, -, -, s0, s3, s4, s5, s6, s8, s9, s16, s267, -⟩ := zl
  have s277' : a.tmps.getD 277 undef = .int .u32 (add32 xs xr) := s277
  rw [hz.out] at s277'
  clear s277 q277
  have q277 := gd s277'
  have hfr := hSS.2.1.free i
  go_simp
  clear hfr s277' cH
  clear q277 q278
  refine hK _ _ ?_
  clear hK K
  change wpList _ _ _ _ a _
  replace hM := hM.gb (gb1 w H i (.int .u32 z)) hnb
  replace hH := hH.gb (gb1 w H i (.int .u32 z)) hnH
  replace hSS := hSS.put (i := i) (v := .int .u32 z) (S' := addK S R (i + 1)) (by rw [← hz.out, ← hxs.out, ← hxr.out]; exact addK_set S R h8)
  revert hSS hM hH
  generalize World.setCell _ _ _ = w
  intro hM hH hSS
  clear s278
  clear ch
  refine fl2 (F := [(0, _), (3, _), (4, _), (5, _), (6, _), (8, _), (9, _), (16, _), (267, _)]) [.eq 279 _] 1 hs hd ⟨s0, s3, s4, s5, s6, s8, s9, s16, s267, trivial⟩
   ⟨(stp rfl fun a u hb hs hl hd K hK => by have s267 := gL hl 8; clear hd; go_simp; exact kE hK hs),
    trivial⟩ ?_
  clear hs hd s0 s3 s4 s5 s6 s8 s9 s16 s267
  intro a w hb hs hd zl hh
  replace zl := lH hh 0 zl
  clear hh
  replace hSS := hSS.after hb
  replace hM := hM.after hb
  replace hH := hH.after hb
  clear hb
  show wpList _ _ _ [_] _ _
  refine tail_op rfl (fun K hK => ?_)
  have q279 := gL zl 0
  go_simp
  clear q279
  refine hK _ _ ?_
  clear hK K
  obtain ⟨s279, s0, s3, s4, s5, s6, s8, s9, s16, s267, -⟩ := zl
  refine act_put (d := 267) _ hs hd (by decide) [(0, _), (3, _), (4, _), (5, _), (6, _), (8, _), (9, _), (16, _), (279, _)] ⟨s0, s3, s4, s5, s6, s8, s9, s16, s279, trivial⟩ rfl ?_
  clear hs hd s0 s3 s4 s5 s6 s8 s9 s16 s267 s279
  intro a hs hd zl
  obtain ⟨s267, s0, s3, s4, s5, s6, s8, s9, s16, -, -⟩ := zl
  refine ⟨⟨i + 1, by omega, hs, hd, ⟨s0, s3, s4, s5, s6, s8, s9, s16, s267, trivial⟩, hSS, hM, hH⟩, ?_⟩
  rw [s267]
  simp [intOf]
  omega
 ·obtain rfl : i = 8 := by omega
  have e1 : decide ((8 : Nat) < 8) = false := by decide
  rw [addK_all] at hSS
  conv => arg 2; whnf
  refine wp_seq ?_
  refine wp_region_list ?_
  show wpList _ _ _ [_] _ _
  refine tail_op rfl (fun K hK => ?_)
  have q267 := gd s267
  go_simp
  clear q267
  refine hK _ _ ?_
  clear hK K
  refine act_put (d := 268) _ hs hd (by decide) [(0, _), (3, _), (4, _), (5, _), (6, _), (8, _), (9, _), (16, _), (267, _)] ⟨s0, s3, s4, s5, s6, s8, s9, s16, s267, trivial⟩ rfl ?_
  clear hs hd s0 s3 s4 s5 s6 s8 s9 s16 s267
  intro a hs hd zl
  refine wp_seq ?_
  refine wp_cond_false (vL zl 0) ?_
  refine wp_exit ?_
  obtain ⟨s268, s0, s3, s4, s5, s6, s8, s9, s16, s267, -⟩ := zl
  exact hQ a w hs hd ⟨s0, s3, s4, s5, s6, s8, s9, trivial⟩ hSS hM
end Go.Proofs.YtcmllcmcbamlbaaDoor
namespace Go.Proofs.YtcmllcmcbamlbaaDoor
open Go.RowKit
theorem u32_info : (Tryd.prog.info? 60).map (fun i => (i.zero, i.size, i.bytes)) = some (some (.int .u32 0), 1, 4) := by kernel_rfl
theorem op_app_h {o : Oper} {a : Act} {w : World} {Q : Exit → Act → World → Prop} {K : Act → World → Prop} (s x : Operand) (ho : o.op = .call { callee := .builtin .append, args := #[s, x], argTypes := #[67, 67] })
  {H c2 : Nat} {t : TypeId} {S : ShaSt} (hs : a.eval s = .slice none 0 0) (hx : a.eval x = .slice (some ⟨H, 0, none⟩) 8 c2) (hg : Blk w H t (st8 S))
  (h : ∀ (hb c' : Nat) (w' : World), Below w.heap.size w w' → w.heap.size ≤ hb → Ho w' hb S → K (a.put o.dst (.slice (some ⟨hb, 0, none⟩) 8 c')) w') : o.wp Tryd.prog a w K Q := by
 obtain ⟨i0, hi0, hz0, hz1, hz2⟩ := info_parts u32_info
 have hcells : ∀ (j : Nat) (u : Value), (st8 S).toList[j]? = some u → w.cell? ((⟨H, 0, none⟩ : Addr).add j) = some u := by
  intro j u hu
  have hadd : (⟨H, 0, none⟩ : Addr).add j = ⟨H, j, none⟩ := by unfold Addr.add; split <;> simp_all
  rw [hadd, hg.cell, ← Array.getElem?_toList]
  exact hu
 obtain ⟨v', w', hrun, h2, h3, _, h5⟩ := run_append_own_at (P := Tryd.prog) w w.heap.size 67 o.type 60 i0 (.int .u32 0) 1 4 Tryd.underlying67 hi0 hz0 hz1 hz2 rfl (by decide) _ _ _ (World.ownsRow_nil w w.heap.size _ 1) ⟨H, 0, none⟩ 8 c2 (st8 S).toList rfl
  hcells (one_u32 [S.a, S.b, S.c, S.d, S.e, S.f, S.g, S.h]) (by decide) (by decide) (Nat.le_refl _)
 have hB : Below w.heap.size w w' := ⟨h3.os, h3.tape, h3.output, h3.size, fun k hk => h3.block k hk (by simp [Value.ownBlock])⟩
 rcases h2.2 with ⟨_, h0⟩ | ⟨g, cap, cur, h1, hge, hgb, _, _, _, htk⟩
 ·simp at h0
 ·subst h1
  have hc : ∀ j : Nat, j < 8 → w'.cell? ⟨g, j, none⟩ = (st8 S)[j]? := by
   intro j hj
   have hb : Blk w' g _ cur := hgb
   have hlen : cur.toList.take 8 = (st8 S).toList := by simpa using htk
   rw [hb.cell, ← Array.getElem?_toList, ← Array.getElem?_toList, ← hlen, List.getElem?_take, if_pos hj]
  unfold Oper.wp execOp
  simp only [ho, resolve, invoke, builtin, Sem.run_bind, Sem.run_pure, Result.andThen_ok, List.map_toArray, List.map_cons, List.map_nil, hs, hx, hrun]
  exact h g cap w' hB hge ⟨hc 0 (by decide), hc 1 (by decide), hc 2 (by decide), hc 3 (by decide), hc 4 (by decide), hc 5 (by decide), hc 6 (by decide), hc 7 (by decide)⟩
end Go.Proofs.YtcmllcmcbamlbaaDoor
namespace Go.Proofs.YtcmllcmcbamlbaaDoor
open Go.RowKit
theorem shaBlks_succ (b : List Int) (p k : Nat) (s : ShaSt) : shaBlks b p (k + 1) s = shaBlk b (p + 64 * k) (shaBlks b p k s) := by rw [shaBlks_add]; rfl
theorem zs32_get {n j : Nat} (h : j < n) : (zs32 n)[j]? = some (.int .u32 0) := by
 unfold zs32
 rw [List.getElem?_toArray, List.getElem?_replicate, if_pos h]
theorem SchZ.new {w : World} {B : Nat} {P : List Int} {p : Nat} (h : Blk w B 63 (zs32 64)) : SchZ w B P p 0 0 :=
 ⟨_, h, by simp [zs32], fun j hj => absurd hj (Nat.not_lt_zero j), fun hj => zs32_get hj, fun j _ hj => zs32_get hj⟩

set_option maxHeartbeats 4000000 in
set_option maxRecDepth 100000 in
theorem ss_blocks {Q : Exit → Act → World → Prop} {B1 H KR n N b o c : Nat} {v0 : Value} {w0 : World} {P : List Int} (a : Act) (w : World) (hs : SzIs a 300) (hd : DfNil a)
  (s0 : a.tmps.getD 0 undef = v0) (s3 : a.tmps.getD 3 undef = .pointer (some ⟨H, 0, none⟩)) (s4 : a.tmps.getD 4 undef = .pointer (some ⟨KR, 0, none⟩)) (s5 : a.tmps.getD 5 undef = .int .i64 ((n : Nat) : Int)) (s6 : a.tmps.getD 6 undef = .slice (some ⟨b, o, none⟩) N c) (s8 : a.tmps.getD 8 undef = (Value.func (Fn.func 26) #[] #[])) (s9 : a.tmps.getD 9 undef = .int .i64 0)
  (hN : N % 64 = 0) (hN2 : N ≤ 1000000000000) (hP8 : Bytes P) (hbb : B1 ≤ b) (hSS : SS w0 w B1 H KR sha0) (hM : BytesAt w b o P 0 N)
  (hQ : ∀ (a : Act) (w : World), SzIs a 300 → DfNil a → LiveAll [(0, v0), (3, .pointer (some ⟨H, 0, none⟩)), (4, .pointer (some ⟨KR, 0, none⟩)), (5, .int .i64 ((n : Nat) : Int)), (6, .slice (some ⟨b, o, none⟩) N c), (8, (Value.func (Fn.func 26) #[] #[]))] a → SS w0 w B1 H KR (shaBlks P 0 (N / 64) sha0) → Q (.exit 4) a w) :
  (Code.loop (ssB 4)).wp Tryd.prog Q a w := by
 refine wp_loop (fun a w => ∃ k p : Nat, Is p (64 * k) ∧ p ≤ N ∧ SzIs a 300 ∧ DfNil a ∧ LiveAll [(0, v0), (3, .pointer (some ⟨H, 0, none⟩)), (4, .pointer (some ⟨KR, 0, none⟩)), (5, .int .i64 ((n : Nat) : Int)), (6, .slice (some ⟨b, o, none⟩) N c), (8, (Value.func (Fn.func 26) #[] #[])), (9, .int .i64 ((p : Nat) : Int))] a ∧ SS w0 w B1 H KR (shaBlks P 0 k sha0) ∧ BytesAt w b o P 0 N)
  (fun a _ => N - (intOf (a.tmps.getD 9 undef)).toNat) ⟨0, 0, rfl, Nat.zero_le _, hs, hd, ⟨s0, s3, s4, s5, s6, s8, s9, trivial⟩, hSS, hM⟩ ?_
 clear hs hd s0 s3 s4 s5 s6 s8 s9 hSS hM a w
 rintro a w ⟨k, p, hp, hpN, hs, hd, ⟨s0, s3, s4, s5, s6, s8, s9, -⟩, hSS, hM⟩
 have hm : (intOf (a.tmps.getD 9 undef)).toNat = p := by rw [s9]; simp [intOf]
 rw [hm]
 clear hm
 have hpv := hp.out
 by_cases hpl : p < N
 ·have e1 : decide (p < N) = true := decide_eq_true hpl
  have e2 : decide ((p : Int) < (N : Int)) = true := decide_eq_true (by omega)
  have f4 : IntKind.i64.wrap ((p : Int) + 64) = ((p + 64 : Nat) : Int) := by rw [IntWalk.i64_in _ (by omega)]; omega
  have hpN64 : p + 64 ≤ N := by omega
  obtain ⟨S, hS⟩ : ∃ S, Is (shaBlks P 0 k sha0) S := is_self _
  rw [hS.out] at hSS
  have hpK := Is.hid hpv
  clear hpv
  conv => arg 2; whnf
  refine wp_seq ?_
  refine wp_seq ?_
  refine fl2 (F := [(0, _), (3, _), (4, _), (5, _), (6, _), (8, _), (9, _)]) [.eq 56 _, .eq 57 _, .eq 58 _] 3 hs hd ⟨s0, s3, s4, s5, s6, s8, s9, trivial⟩
   ⟨(stp rfl fun a u hb hs hl hd K hK => by have s9 := gL hl 6; clear hd; go_simp; exact kE hK hs),
    (stp rfl fun a u hb hs hl hd K hK => by have s6 := gL hl 4; clear hd; go_simp; exact kE hK hs),
    (stp rfl fun a u hb hs hl hd K hK => by have s57 := gD hd 1; clear hd; go_simp; exact kE hK hs),
    trivial⟩ ?_
  clear hs hd s0 s3 s4 s5 s6 s8 s9
  intro a w hb hs hd zl hh
  replace zl := lH hh 0 zl
  replace zl := lH hh 2 zl
  clear hh
  replace hSS := hSS.after hb
  replace hM := hM.after hb
  clear hb
  show wpList _ _ _ [_] _ _
  refine tail_op rfl (fun K hK => ?_)
  have q56 := gL zl 1
  have q58 := gL zl 0
  go_simp
  clear q56 q58
  refine hK _ _ (tP hs hd zl ?_)
  clear hK K hs hd zl
  intro a hs hd zl
  refine wp_cond_true (vL zl 0) ?_
  refine wp_skip ?_
  refine wp_seq ?_
  refine wp_block ?_
  refine wp_seq ?_
  refine wp_region_list ?_
  show wpList _ _ _ [_] _ _
  refine tail_op rfl (fun K hK => ?_)
  go_simp
  refine hK _ _ (tP hs hd zl ?_)
  clear hK K hs hd zl
  intro a hs hd zl
  obtain ⟨WB, hE⟩ : ∃ B, Is w.heap.size B := is_self _
  have hWB : B1 ≤ WB := by rw [← hE.out]; exact hSS.2.2.2.2.2.2.2.2
  have hbW : b ≠ WB := by have := World.block_lt_of_cell? w _ (hM 0 (by omega)); rw [← hE.out]; exact Nat.ne_of_lt this
  generalize hw1 : World.alloc w _ = w1
  have hW : SchZ w1 WB P p 0 0 := by rw [← hw1, ← hE.out]; exact SchZ.new (Blk.new w _ _)
  have hB1 : Below w.heap.size w w1 := by rw [← hw1]; exact bz_alloc (bz_refl w) _
  replace hSS := hSS.after hB1
  replace hM := hM.after hB1
  obtain ⟨s10, s59, -, -, s0, s3, s4, s5, s6, s8, s9, -⟩ := zl
  rw [hE.out] at s10
  clear hw1 hB1 hE
  clear s59
  refine wp_seq ?_
  refine wp_seq ?_
  refine wp_region_list ?_
  show wpList _ _ _ [_] _ _
  refine tail_op rfl (fun K hK => ?_)
  go_simp
  refine hK _ _ ?_
  clear hK K
  refine act_put (d := 62) _ hs hd (by decide) [(0, _), (3, _), (4, _), (5, _), (6, _), (8, _), (9, _), (10, _)] ⟨s0, s3, s4, s5, s6, s8, s9, s10, trivial⟩ rfl ?_
  clear hs hd s0 s3 s4 s5 s6 s8 s9 s10
  intro a hs hd zl
  refine wp_block ?_
  obtain ⟨s62, s0, s3, s4, s5, s6, s8, s9, s10, -⟩ := zl
  refine ss_first a _ hs hd s0 s3 s4 s5 s6 s8 s9 s10 s62 hpN64 hN2 hP8 hWB hbW hSS hW hM ?_
  clear hs hd s0 s3 s4 s5 s6 s8 s9 s10 s62 hSS hW hM
  rintro a w hs hd ⟨s0, s3, s4, s5, s6, s8, s9, s10, -⟩ hSS hW hM
  refine inBlock_exit ?_
  refine wp_seq ?_
  refine wp_seq ?_
  refine wp_region_list ?_
  show wpList _ _ _ [_] _ _
  refine tail_op rfl (fun K hK => ?_)
  go_simp
  refine hK _ _ ?_
  clear hK K
  refine act_put (d := 13) _ hs hd (by decide) [(0, _), (3, _), (4, _), (5, _), (6, _), (8, _), (9, _), (10, _)] ⟨s0, s3, s4, s5, s6, s8, s9, s10, trivial⟩ rfl ?_
  clear hs hd s0 s3 s4 s5 s6 s8 s9 s10
  intro a hs hd zl
  refine wp_block ?_
  obtain ⟨s13, s0, s3, s4, s5, s6, s8, s9, s10, -⟩ := zl
  refine ss_more a _ hs hd s0 s3 s4 s5 s6 s8 s9 s10 s13 hWB hbW hSS hW hM ?_
  clear hs hd s0 s3 s4 s5 s6 s8 s9 s10 s13 hSS hW hM
  rintro a w hs hd ⟨s0, s3, s4, s5, s6, s8, s9, s10, -⟩ hSS hW hM
  refine inBlock_exit ?_
  refine wp_seq ?_
  refine fl2 (F := [(0, _), (3, _), (4, _), (5, _), (6, _), (8, _), (9, _), (10, _)]) [.eq 144 _] 1 hs hd ⟨s0, s3, s4, s5, s6, s8, s9, s10, trivial⟩
   ⟨(stp rfl fun a u hb hs hl hd K hK => by have s3 := gL hl 1; clear hd; go_simp; exact kE hK hs),
    trivial⟩ ?_
  clear hs hd s0 s3 s4 s5 s6 s8 s9 s10
  intro a w hb hs hd zl hh
  replace zl := lH hh 0 zl
  clear hh
  replace hSS := hSS.after hb
  replace hW := hW.after hb
  replace hM := hM.after hb
  clear hb
  show wpList _ _ _ [_, _] _ _
  refine tail_op rfl (fun K hK => ?_)
  have q144 := gL zl 0
  have s144 := vL zl 0
  refine op_app_h (.const (Value.slice none 0 0)) (.tmp 144) rfl rfl s144 hSS.2.1 ?_
  intro hb c1 w2 hbel hhb hH
  clear q144
  refine hK _ _ (tP hs hd zl ?_)
  clear hK K hs hd zl s144
  intro a hs hd zl
  replace hhb := Nat.le_trans hSS.2.2.2.2.2.2.2.2 hhb
  replace hSS := hSS.after hbel
  replace hW := hW.after hbel
  replace hM := hM.after hbel
  clear hbel
  refine tail_op rfl (fun K hK => ?_)
  have q145 := gL zl 0
  go_simp
  clear q145
  refine hK _ _ (tP hs hd zl ?_)
  clear hK K hs hd zl
  intro a hs hd zl
  refine wp_seq ?_
  refine wp_seq ?_
  refine wp_region_list ?_
  show wpList _ _ _ [_] _ _
  refine tail_op rfl (fun K hK => ?_)
  go_simp
  refine hK _ _ (tP hs hd zl ?_)
  clear hK K hs hd zl
  intro a hs hd zl
  refine wp_block ?_
  obtain ⟨s146, s16, -, -, s0, s3, s4, s5, s6, s8, s9, s10, -⟩ := zl
  refine ss_rounds a _ hs hd s0 s3 s4 s5 s6 s8 s9 s10 s16 s146 hSS hW hM hH hhb ?_
  clear hs hd s0 s3 s4 s5 s6 s8 s9 s10 s16 s146 hSS hW hM hH hhb
  rintro a w hb2 c2 R hR hs hd ⟨s0, s3, s4, s5, s6, s8, s9, s10, s16, -⟩ hSS hM hH hhb2
  refine inBlock_exit ?_
  refine wp_seq ?_
  refine wp_region_list ?_
  show wpList _ _ _ [_] _ _
  refine tail_op rfl (fun K hK => ?_)
  go_simp
  refine hK _ _ ?_
  clear hK K
  refine act_put (d := 267) _ hs hd (by decide) [(0, _), (3, _), (4, _), (5, _), (6, _), (8, _), (9, _), (10, _), (16, _)] ⟨s0, s3, s4, s5, s6, s8, s9, s10, s16, trivial⟩ rfl ?_
  clear hs hd s0 s3 s4 s5 s6 s8 s9 s10 s16
  intro a hs hd zl
  refine wp_block ?_
  obtain ⟨s267, s0, s3, s4, s5, s6, s8, s9, -, s16, -⟩ := zl
  refine ss_end a _ hs hd s0 s3 s4 s5 s6 s8 s9 s16 s267 hSS hM hH hhb2 hbb ?_
  clear hs hd s0 s3 s4 s5 s6 s8 s9 s16 s267 hSS hM hH hhb2
  rintro a w hs hd ⟨s0, s3, s4, s5, s6, s8, s9, -⟩ hSS hM
  refine inBlock_exit ?_
  refine fl2 (F := [(0, _), (3, _), (4, _), (5, _), (6, _), (8, _), (9, _)]) [.eq 60 _, .eq 61 _] 2 hs hd ⟨s0, s3, s4, s5, s6, s8, s9, trivial⟩
   ⟨(stp rfl fun a u hb hs hl hd K hK => by have s9 := gL hl 6; clear hd; go_simp; exact kE hK hs),
    (stp rfl fun a u hb hs hl hd K hK => by have s60 := gD hd 0; clear hd; go_simp; exact kE hK hs),
    trivial⟩ ?_
  clear hs hd s0 s3 s4 s5 s6 s8 s9
  intro a w hb hs hd zl hh
  replace zl := lH hh 1 zl
  clear hh
  replace hSS := hSS.after hb
  replace hM := hM.after hb
  clear hb
  show wpList _ _ _ [_] _ _
  refine tail_op rfl (fun K hK => ?_)
  have q61 := gL zl 0
  go_simp
  clear q61
  refine hK _ _ ?_
  clear hK K
  obtain ⟨s61, s0, s3, s4, s5, s6, s8, s9, -⟩ := zl
  refine act_put (d := 9) _ hs hd (by decide) [(0, _), (3, _), (4, _), (5, _), (6, _), (8, _), (61, _)] ⟨s0, s3, s4, s5, s6, s8, s61, trivial⟩ rfl ?_
  clear hs hd s0 s3 s4 s5 s6 s8 s9 s61
  intro a hs hd zl
  obtain ⟨s9, s0, s3, s4, s5, s6, s8, -, -⟩ := zl
  refine ⟨⟨k + 1, p + 64, by unfold Is; have := hpK.out; omega, hpN64, hs, hd, ⟨s0, s3, s4, s5, s6, s8, s9, trivial⟩, ?_, hM⟩, ?_⟩
  ·rw [shaBlks_succ, hS.out, Nat.zero_add, ← hpK.out]
   unfold shaBlk
   rw [← hR.out]
   exact hSS
  ·rw [s9]
   simp [intOf]
   omega
 ·obtain rfl : p = N := by omega
  have e1 : decide (p < p) = false := decide_eq_false (by omega)
  have hk : k = p / 64 := by omega
  rw [hk] at hSS
  clear hk hpv
  conv => arg 2; whnf
  refine wp_seq ?_
  refine wp_seq ?_
  refine fl2 (F := [(0, _), (3, _), (4, _), (5, _), (6, _), (8, _), (9, _)]) [.eq 56 _, .eq 57 _, .eq 58 _] 3 hs hd ⟨s0, s3, s4, s5, s6, s8, s9, trivial⟩
   ⟨(stp rfl fun a u hb hs hl hd K hK => by have s9 := gL hl 6; clear hd; go_simp; exact kE hK hs),
    (stp rfl fun a u hb hs hl hd K hK => by have s6 := gL hl 4; clear hd; go_simp; exact kE hK hs),
    (stp rfl fun a u hb hs hl hd K hK => by have s57 := gD hd 1; clear hd; go_simp; exact kE hK hs),
    trivial⟩ ?_
  clear hs hd s0 s3 s4 s5 s6 s8 s9
  intro a w hb hs hd zl hh
  replace zl := lH hh 0 zl
  replace zl := lH hh 2 zl
  clear hh
  replace hSS := hSS.after hb
  replace hM := hM.after hb
  clear hb
  show wpList _ _ _ [_] _ _
  refine tail_op rfl (fun K hK => ?_)
  have q56 := gL zl 1
  have q58 := gL zl 0
  go_simp
  clear q56 q58
  refine hK _ _ (tP hs hd zl ?_)
  clear hK K hs hd zl
  intro a hs hd zl
  refine wp_cond_false (vL zl 0) ?_
  refine wp_exit ?_
  obtain ⟨s59, -, -, s0, s3, s4, s5, s6, s8, s9, -⟩ := zl
  exact hQ a w hs hd ⟨s0, s3, s4, s5, s6, s8, trivial⟩ hSS
end Go.Proofs.YtcmllcmcbamlbaaDoor
namespace Go.Proofs.YtcmllcmcbamlbaaDoor
open Go.RowKit

set_option maxHeartbeats 4000000 in
set_option maxRecDepth 100000 in
theorem ss_out {Q : Exit → Act → World → Prop} {S : ShaSt} {w0 : World} (a : Act) (w : World) (hs : SzIs a 300) (hd : DfNil a)
  (s24 : a.tmps.getD 24 undef = .slice none 0 0) (s280 : a.tmps.getD 280 undef = .agg (st8 S)) (s281 : a.tmps.getD 281 undef = .int .i64 0) (hU : St32 S) (hB : Below w0.heap.size w0 w)
  (hQ : ∀ (a : Act) (w : World) (A : Option Addr) (c : Nat) (P : List Int), Is P (shaOut S) → SzIs a 300 → DfNil a → LiveAll [(24, .slice A P.length c)] a → Below w0.heap.size w0 w → OwnB w0.heap.size w A c P → Q (.exit 16) a w) :
  (Code.loop (ssB 16)).wp Tryd.prog Q a w := by
 unfold st8 at s280
 obtain ⟨P0, hP0⟩ : ∃ P, Is ([] : List Int) P := is_self _
 have hown : OwnB w0.heap.size w none 0 P0 := by rw [← hP0.out]; exact OwnB.nil _ _
 replace s24 : a.tmps.getD 24 undef = .slice none P0.length 0 := by rw [← hP0.out]; exact s24
 have hPl : P0.length = 0 := by rw [← hP0.out]; rfl
 have hPH := Is.hid hPl
 clear hPl
 refine wp_loop_rounds 9 ?_
 change Code.wp _ (ssB 16) (Exit.then (Code.rounds _ _ _ 8) _) _ _
 conv => arg 2; whnf
 refine wp_seq ?_
 refine wp_region_list ?_
 show wpList _ _ _ [_] _ _
 refine tail_op rfl (fun K hK => ?_)
 have q281 := gd s281
 go_simp
 clear q281
 refine hK _ _ ?_
 clear hK K
 refine act_put (d := 282) _ hs hd (by decide) [(24, _), (280, _), (281, _)] ⟨s24, s280, s281, trivial⟩ rfl ?_
 clear hs hd s24 s280 s281
 intro a hs hd zl
 refine wp_seq ?_
 refine wp_cond_true (vL zl 0) ?_
 refine wp_skip ?_
 refine wp_seq ?_
 refine wp_block ?_
 refine wp_seq ?_
 refine fl2 [.eq 283 _] 1 hs hd zl
  ⟨(stp rfl fun a u hb hs hl hd K hK => by have s280 := gL hl 2; have s281 := gL hl 3; clear hd; go_simp; exact kE hK hs),
   trivial⟩ ?_
 clear hs hd zl
 intro a w hb hs hd zl hh
 replace zl := lH hh 0 zl
 clear hh
 replace hown := hown.after hb
 replace hB := bz_then hB hb
 clear hb
 show wpList _ _ _ [_] _ _
 refine tail_op rfl (fun K hK => ?_)
 have q283 := gL zl 0
 go_simp
 clear q283
 refine hK _ _ (tP hs hd zl ?_)
 clear hK K hs hd zl
 intro a hs hd zl
 have hu : U32 S.a := by have h := hU; unfold St32 at h; simp only [h]
 unfold U32 at hu
 have w1 : IntKind.u8.wrap (S.a / 16777216) = S.a / 16777216 := (IntKind.wrap_u8' _).trans (by omega)
 have w2 : IntKind.u8.wrap (S.a / 65536) = S.a / 65536 % 256 := IntKind.wrap_u8' _
 have w3 : IntKind.u8.wrap (S.a / 256) = S.a / 256 % 256 := IntKind.wrap_u8' _
 have w4 : IntKind.u8.wrap S.a = S.a % 256 := IntKind.wrap_u8' _
 have w5 : IntKind.u8.wrap (S.a.fdiv 16777216) = S.a / 16777216 := by rw [Int.fdiv_eq_ediv_of_nonneg _ (by decide)]; exact w1
 have w6 : IntKind.u8.wrap (S.a.fdiv 65536) = S.a / 65536 % 256 := by rw [Int.fdiv_eq_ediv_of_nonneg _ (by decide)]; exact w2
 have w7 : IntKind.u8.wrap (S.a.fdiv 256) = S.a / 256 % 256 := by rw [Int.fdiv_eq_ediv_of_nonneg _ (by decide)]; exact w3
 clear hu
 refine fl2 [.eq 284 _, .eq 285 _, .eq 286 _, .eq 287 _, .eq 288 _, .eq 289 _, .eq 290 _, .eq 291 _, .eq 292 _, .eq 293 _, .eq 294 _, .eq 295 _] 12 hs hd zl
  ⟨(stp rfl fun a u hb hs hl hd K hK => by have s24 := gL hl 3; clear hd; go_simp; exact kE hK hs),
   (stp rfl fun a u hb hs hl hd K hK => by have s26 := gL hl 0; clear hd; go_simp; exact kE hK hs),
   (stp rfl fun a u hb hs hl hd K hK => by have s285 := gD hd 1; clear hd; go_simp; exact kE hK hs),
   (stp rfl fun a u hb hs hl hd K hK => by have s286 := gD hd 2; clear hd; go_simp; exact kE hK hs),
   (stp rfl fun a u hb hs hl hd K hK => by have s26 := gL hl 0; clear hd; go_simp; exact kE hK hs),
   (stp rfl fun a u hb hs hl hd K hK => by have s288 := gD hd 4; clear hd; go_simp; exact kE hK hs),
   (stp rfl fun a u hb hs hl hd K hK => by have s289 := gD hd 5; clear hd; go_simp; exact kE hK hs),
   (stp rfl fun a u hb hs hl hd K hK => by have s26 := gL hl 0; clear hd; go_simp; exact kE hK hs),
   (stp rfl fun a u hb hs hl hd K hK => by have s291 := gD hd 7; clear hd; go_simp; exact kE hK hs),
   (stp rfl fun a u hb hs hl hd K hK => by have s292 := gD hd 8; clear hd; go_simp; exact kE hK hs),
   (stp rfl fun a u hb hs hl hd K hK => by have s26 := gL hl 0; clear hd; go_simp; exact kE hK hs),
   (stp rfl fun a u hb hs hl hd K hK => by have s294 := gD hd 10; clear hd; go_simp; exact kE hK hs),
   trivial⟩ ?_
 clear hs hd zl
 intro a w hb hs hd zl hh
 replace zl := lH hh 0 zl
 replace zl := lH hh 3 zl
 replace zl := lH hh 6 zl
 replace zl := lH hh 9 zl
 replace zl := lH hh 11 zl
 clear hh
 replace hown := hown.after hb
 replace hB := bz_then hB hb
 clear hb
 show wpList _ _ _ [_, _, _] _ _
 refine tail_op rfl (fun K hK => ?_)
 have q287 := gL zl 3
 have q290 := gL zl 2
 have q293 := gL zl 1
 have q295 := gL zl 0
 go_simp
 clear q287 q290 q293 q295
 refine hK _ _ (tP hs hd zl ?_)
 clear hK K hs hd zl
 intro a hs hd zl
 clear w1 w2 w3 w4 w5 w6 w7
 generalize hw1 : World.alloc w _ = u1
 have hbs : Bs u1 (some ⟨w.heap.size, 0, none⟩) (be32 S.a) := by rw [← hw1]; exact bs_u8s (Blk.new w 5 _)
 have hB1 : Below w.heap.size w u1 := by rw [← hw1]; exact bz_alloc (bz_refl w) _
 replace hB := bz_then hB hB1
 replace hown := hown.after hB1
 clear hw1 hB1
 refine tail_op rfl (fun K hK => ?_)
 have q284 := gL zl 5
 have q296 := gL zl 0
 have s284 := vL zl 5
 have s296 := vL zl 0
 refine op_app_u8 (.tmp 284) (.tmp 296) rfl (l2 := be32 S.a) (c2 := 4) s284 s296 hown hbs (by have := hPH.out; rw [this]; simp [be32]) hB.size ?_
 intro l1 A1 c1 u2 hl1 _ hown1 hbel _ _
 clear q284 q296
 refine hK _ _ (tP hs hd zl ?_)
 clear hK K hs hd zl s284 s296
 intro a hs hd zl
 replace hB := hB.trans hbel
 have hPl : l1.length = 4 := by rw [hl1.out, List.length_append, hPH.out]; rfl
 replace hP0 : Is (([] : List Int) ++ be32 S.a) l1 := (by have h1 := hl1.out; rw [← hP0.out] at h1; exact h1.symm)
 clear hPH hown hbs hbel hl1
 have hPH := Is.hid hPl
 have hown := hown1
 clear hPl hown1
 refine tail_op rfl (fun K hK => ?_)
 have q297 := gL zl 0
 go_simp
 clear q297
 refine hK _ _ ?_
 clear hK K
 obtain ⟨s297, s296, s295, s293, s290, s287, s284, -, -, -, s24, s280, s281, -⟩ := zl
 refine act_put (d := 24) _ hs hd (by decide) [(280, _), (281, _), (284, _), (287, _), (290, _), (293, _), (295, _), (296, _), (297, _)] ⟨s280, s281, s284, s287, s290, s293, s295, s296, s297, trivial⟩ rfl ?_
 clear hs hd s24 s280 s281 s284 s287 s290 s293 s295 s296 s297
 intro a hs hd zl
 refine fl2 [.eq 298 _] 1 hs hd zl
  ⟨(stp rfl fun a u hb hs hl hd K hK => by have s281 := gL hl 2; clear hd; go_simp; exact kE hK hs),
   trivial⟩ ?_
 clear hs hd zl
 intro a w hb hs hd zl hh
 replace zl := lH hh 0 zl
 clear hh
 replace hown := hown.after hb
 replace hB := bz_then hB hb
 clear hb
 show wpList _ _ _ [_] _ _
 refine tail_op rfl (fun K hK => ?_)
 have q298 := gL zl 0
 go_simp
 clear q298
 refine hK _ _ ?_
 clear hK K
 obtain ⟨s298, s24, s280, s281, -, -, -, -, -, -, -, -⟩ := zl
 refine act_put (d := 281) _ hs hd (by decide) [(24, _), (280, _), (298, _)] ⟨s24, s280, s298, trivial⟩ rfl ?_
 clear hs hd s24 s280 s281 s298
 intro a hs hd zl
 change Code.wp _ (ssB 16) (Exit.then (Code.rounds _ _ _ 7) _) _ _
 conv => arg 2; whnf
 refine wp_seq ?_
 refine wp_region_list ?_
 show wpList _ _ _ [_] _ _
 refine tail_op rfl (fun K hK => ?_)
 have q281 := gL zl 0
 go_simp
 clear q281
 refine hK _ _ (tP hs hd zl ?_)
 clear hK K hs hd zl
 intro a hs hd zl
 refine wp_seq ?_
 refine wp_cond_true (vL zl 0) ?_
 refine wp_skip ?_
 refine wp_seq ?_
 refine wp_block ?_
 refine wp_seq ?_
 refine fl2 [.eq 283 _] 1 hs hd zl
  ⟨(stp rfl fun a u hb hs hl hd K hK => by have s280 := gL hl 3; have s281 := gL hl 1; clear hd; go_simp; exact kE hK hs),
   trivial⟩ ?_
 clear hs hd zl
 intro a w hb hs hd zl hh
 replace zl := lH hh 0 zl
 clear hh
 replace hown := hown.after hb
 replace hB := bz_then hB hb
 clear hb
 show wpList _ _ _ [_] _ _
 refine tail_op rfl (fun K hK => ?_)
 have q283 := gL zl 0
 go_simp
 clear q283
 refine hK _ _ (tP hs hd zl ?_)
 clear hK K hs hd zl
 intro a hs hd zl
 have hu : U32 S.b := by have h := hU; unfold St32 at h; simp only [h]
 unfold U32 at hu
 have w1 : IntKind.u8.wrap (S.b / 16777216) = S.b / 16777216 := (IntKind.wrap_u8' _).trans (by omega)
 have w2 : IntKind.u8.wrap (S.b / 65536) = S.b / 65536 % 256 := IntKind.wrap_u8' _
 have w3 : IntKind.u8.wrap (S.b / 256) = S.b / 256 % 256 := IntKind.wrap_u8' _
 have w4 : IntKind.u8.wrap S.b = S.b % 256 := IntKind.wrap_u8' _
 have w5 : IntKind.u8.wrap (S.b.fdiv 16777216) = S.b / 16777216 := by rw [Int.fdiv_eq_ediv_of_nonneg _ (by decide)]; exact w1
 have w6 : IntKind.u8.wrap (S.b.fdiv 65536) = S.b / 65536 % 256 := by rw [Int.fdiv_eq_ediv_of_nonneg _ (by decide)]; exact w2
 have w7 : IntKind.u8.wrap (S.b.fdiv 256) = S.b / 256 % 256 := by rw [Int.fdiv_eq_ediv_of_nonneg _ (by decide)]; exact w3
 clear hu
 refine fl2 [.eq 284 _, .eq 285 _, .eq 286 _, .eq 287 _, .eq 288 _, .eq 289 _, .eq 290 _, .eq 291 _, .eq 292 _, .eq 293 _, .eq 294 _, .eq 295 _] 12 hs hd zl
  ⟨(stp rfl fun a u hb hs hl hd K hK => by have s24 := gL hl 4; clear hd; go_simp; exact kE hK hs),
   (stp rfl fun a u hb hs hl hd K hK => by have s26 := gL hl 0; clear hd; go_simp; exact kE hK hs),
   (stp rfl fun a u hb hs hl hd K hK => by have s285 := gD hd 1; clear hd; go_simp; exact kE hK hs),
   (stp rfl fun a u hb hs hl hd K hK => by have s286 := gD hd 2; clear hd; go_simp; exact kE hK hs),
   (stp rfl fun a u hb hs hl hd K hK => by have s26 := gL hl 0; clear hd; go_simp; exact kE hK hs),
   (stp rfl fun a u hb hs hl hd K hK => by have s288 := gD hd 4; clear hd; go_simp; exact kE hK hs),
   (stp rfl fun a u hb hs hl hd K hK => by have s289 := gD hd 5; clear hd; go_simp; exact kE hK hs),
   (stp rfl fun a u hb hs hl hd K hK => by have s26 := gL hl 0; clear hd; go_simp; exact kE hK hs),
   (stp rfl fun a u hb hs hl hd K hK => by have s291 := gD hd 7; clear hd; go_simp; exact kE hK hs),
   (stp rfl fun a u hb hs hl hd K hK => by have s292 := gD hd 8; clear hd; go_simp; exact kE hK hs),
   (stp rfl fun a u hb hs hl hd K hK => by have s26 := gL hl 0; clear hd; go_simp; exact kE hK hs),
   (stp rfl fun a u hb hs hl hd K hK => by have s294 := gD hd 10; clear hd; go_simp; exact kE hK hs),
   trivial⟩ ?_
 clear hs hd zl
 intro a w hb hs hd zl hh
 replace zl := lH hh 0 zl
 replace zl := lH hh 3 zl
 replace zl := lH hh 6 zl
 replace zl := lH hh 9 zl
 replace zl := lH hh 11 zl
 clear hh
 replace hown := hown.after hb
 replace hB := bz_then hB hb
 clear hb
 show wpList _ _ _ [_, _, _] _ _
 refine tail_op rfl (fun K hK => ?_)
 have q287 := gL zl 3
 have q290 := gL zl 2
 have q293 := gL zl 1
 have q295 := gL zl 0
 go_simp
 clear q287 q290 q293 q295
 refine hK _ _ (tP hs hd zl ?_)
 clear hK K hs hd zl
 intro a hs hd zl
 clear w1 w2 w3 w4 w5 w6 w7
 generalize hw1 : World.alloc w _ = u1
 have hbs : Bs u1 (some ⟨w.heap.size, 0, none⟩) (be32 S.b) := by rw [← hw1]; exact bs_u8s (Blk.new w 5 _)
 have hB1 : Below w.heap.size w u1 := by rw [← hw1]; exact bz_alloc (bz_refl w) _
 replace hB := bz_then hB hB1
 replace hown := hown.after hB1
 clear hw1 hB1
 refine tail_op rfl (fun K hK => ?_)
 have q284 := gL zl 5
 have q296 := gL zl 0
 have s284 := vL zl 5
 have s296 := vL zl 0
 refine op_app_u8 (.tmp 284) (.tmp 296) rfl (l2 := be32 S.b) (c2 := 4) s284 s296 hown hbs (by have := hPH.out; rw [this]; simp [be32]) hB.size ?_
 intro l1 A1 c1 u2 hl1 _ hown1 hbel _ _
 clear q284 q296
 refine hK _ _ (tP hs hd zl ?_)
 clear hK K hs hd zl s284 s296
 intro a hs hd zl
 replace hB := hB.trans hbel
 have hPl : l1.length = 8 := by rw [hl1.out, List.length_append, hPH.out]; rfl
 replace hP0 : Is (([] : List Int) ++ be32 S.a ++ be32 S.b) l1 := (by have h1 := hl1.out; rw [← hP0.out] at h1; exact h1.symm)
 clear hPH hown hbs hbel hl1
 have hPH := Is.hid hPl
 have hown := hown1
 clear hPl hown1
 refine tail_op rfl (fun K hK => ?_)
 have q297 := gL zl 0
 go_simp
 clear q297
 refine hK _ _ ?_
 clear hK K
 obtain ⟨s297, s296, s295, s293, s290, s287, s284, -, -, -, s281, s24, s280, -, -⟩ := zl
 refine act_put (d := 24) _ hs hd (by decide) [(280, _), (281, _), (284, _), (287, _), (290, _), (293, _), (295, _), (296, _), (297, _)] ⟨s280, s281, s284, s287, s290, s293, s295, s296, s297, trivial⟩ rfl ?_
 clear hs hd s24 s280 s281 s284 s287 s290 s293 s295 s296 s297
 intro a hs hd zl
 refine fl2 [.eq 298 _] 1 hs hd zl
  ⟨(stp rfl fun a u hb hs hl hd K hK => by have s281 := gL hl 2; clear hd; go_simp; exact kE hK hs),
   trivial⟩ ?_
 clear hs hd zl
 intro a w hb hs hd zl hh
 replace zl := lH hh 0 zl
 clear hh
 replace hown := hown.after hb
 replace hB := bz_then hB hb
 clear hb
 show wpList _ _ _ [_] _ _
 refine tail_op rfl (fun K hK => ?_)
 have q298 := gL zl 0
 go_simp
 clear q298
 refine hK _ _ ?_
 clear hK K
 obtain ⟨s298, s24, s280, s281, -, -, -, -, -, -, -, -⟩ := zl
 refine act_put (d := 281) _ hs hd (by decide) [(24, _), (280, _), (298, _)] ⟨s24, s280, s298, trivial⟩ rfl ?_
 clear hs hd s24 s280 s281 s298
 intro a hs hd zl
 change Code.wp _ (ssB 16) (Exit.then (Code.rounds _ _ _ 6) _) _ _
 conv => arg 2; whnf
 refine wp_seq ?_
 refine wp_region_list ?_
 show wpList _ _ _ [_] _ _
 refine tail_op rfl (fun K hK => ?_)
 have q281 := gL zl 0
 go_simp
 clear q281
 refine hK _ _ (tP hs hd zl ?_)
 clear hK K hs hd zl
 intro a hs hd zl
 refine wp_seq ?_
 refine wp_cond_true (vL zl 0) ?_
 refine wp_skip ?_
 refine wp_seq ?_
 refine wp_block ?_
 refine wp_seq ?_
 refine fl2 [.eq 283 _] 1 hs hd zl
  ⟨(stp rfl fun a u hb hs hl hd K hK => by have s280 := gL hl 3; have s281 := gL hl 1; clear hd; go_simp; exact kE hK hs),
   trivial⟩ ?_
 clear hs hd zl
 intro a w hb hs hd zl hh
 replace zl := lH hh 0 zl
 clear hh
 replace hown := hown.after hb
 replace hB := bz_then hB hb
 clear hb
 show wpList _ _ _ [_] _ _
 refine tail_op rfl (fun K hK => ?_)
 have q283 := gL zl 0
 go_simp
 clear q283
 refine hK _ _ (tP hs hd zl ?_)
 clear hK K hs hd zl
 intro a hs hd zl
 have hu : U32 S.c := by have h := hU; unfold St32 at h; simp only [h]
 unfold U32 at hu
 have w1 : IntKind.u8.wrap (S.c / 16777216) = S.c / 16777216 := (IntKind.wrap_u8' _).trans (by omega)
 have w2 : IntKind.u8.wrap (S.c / 65536) = S.c / 65536 % 256 := IntKind.wrap_u8' _
 have w3 : IntKind.u8.wrap (S.c / 256) = S.c / 256 % 256 := IntKind.wrap_u8' _
 have w4 : IntKind.u8.wrap S.c = S.c % 256 := IntKind.wrap_u8' _
 have w5 : IntKind.u8.wrap (S.c.fdiv 16777216) = S.c / 16777216 := by rw [Int.fdiv_eq_ediv_of_nonneg _ (by decide)]; exact w1
 have w6 : IntKind.u8.wrap (S.c.fdiv 65536) = S.c / 65536 % 256 := by rw [Int.fdiv_eq_ediv_of_nonneg _ (by decide)]; exact w2
 have w7 : IntKind.u8.wrap (S.c.fdiv 256) = S.c / 256 % 256 := by rw [Int.fdiv_eq_ediv_of_nonneg _ (by decide)]; exact w3
 clear hu
 refine fl2 [.eq 284 _, .eq 285 _, .eq 286 _, .eq 287 _, .eq 288 _, .eq 289 _, .eq 290 _, .eq 291 _, .eq 292 _, .eq 293 _, .eq 294 _, .eq 295 _] 12 hs hd zl
  ⟨(stp rfl fun a u hb hs hl hd K hK => by have s24 := gL hl 4; clear hd; go_simp; exact kE hK hs),
   (stp rfl fun a u hb hs hl hd K hK => by have s26 := gL hl 0; clear hd; go_simp; exact kE hK hs),
   (stp rfl fun a u hb hs hl hd K hK => by have s285 := gD hd 1; clear hd; go_simp; exact kE hK hs),
   (stp rfl fun a u hb hs hl hd K hK => by have s286 := gD hd 2; clear hd; go_simp; exact kE hK hs),
   (stp rfl fun a u hb hs hl hd K hK => by have s26 := gL hl 0; clear hd; go_simp; exact kE hK hs),
   (stp rfl fun a u hb hs hl hd K hK => by have s288 := gD hd 4; clear hd; go_simp; exact kE hK hs),
   (stp rfl fun a u hb hs hl hd K hK => by have s289 := gD hd 5; clear hd; go_simp; exact kE hK hs),
   (stp rfl fun a u hb hs hl hd K hK => by have s26 := gL hl 0; clear hd; go_simp; exact kE hK hs),
   (stp rfl fun a u hb hs hl hd K hK => by have s291 := gD hd 7; clear hd; go_simp; exact kE hK hs),
   (stp rfl fun a u hb hs hl hd K hK => by have s292 := gD hd 8; clear hd; go_simp; exact kE hK hs),
   (stp rfl fun a u hb hs hl hd K hK => by have s26 := gL hl 0; clear hd; go_simp; exact kE hK hs),
   (stp rfl fun a u hb hs hl hd K hK => by have s294 := gD hd 10; clear hd; go_simp; exact kE hK hs),
   trivial⟩ ?_
 clear hs hd zl
 intro a w hb hs hd zl hh
 replace zl := lH hh 0 zl
 replace zl := lH hh 3 zl
 replace zl := lH hh 6 zl
 replace zl := lH hh 9 zl
 replace zl := lH hh 11 zl
 clear hh
 replace hown := hown.after hb
 replace hB := bz_then hB hb
 clear hb
 show wpList _ _ _ [_, _, _] _ _
 refine tail_op rfl (fun K hK => ?_)
 have q287 := gL zl 3
 have q290 := gL zl 2
 have q293 := gL zl 1
 have q295 := gL zl 0
 go_simp
 clear q287 q290 q293 q295
 refine hK _ _ (tP hs hd zl ?_)
 clear hK K hs hd zl
 intro a hs hd zl
 clear w1 w2 w3 w4 w5 w6 w7
 generalize hw1 : World.alloc w _ = u1
 have hbs : Bs u1 (some ⟨w.heap.size, 0, none⟩) (be32 S.c) := by rw [← hw1]; exact bs_u8s (Blk.new w 5 _)
 have hB1 : Below w.heap.size w u1 := by rw [← hw1]; exact bz_alloc (bz_refl w) _
 replace hB := bz_then hB hB1
 replace hown := hown.after hB1
 clear hw1 hB1
 refine tail_op rfl (fun K hK => ?_)
 have q284 := gL zl 5
 have q296 := gL zl 0
 have s284 := vL zl 5
 have s296 := vL zl 0
 refine op_app_u8 (.tmp 284) (.tmp 296) rfl (l2 := be32 S.c) (c2 := 4) s284 s296 hown hbs (by have := hPH.out; rw [this]; simp [be32]) hB.size ?_
 intro l1 A1 c1 u2 hl1 _ hown1 hbel _ _
 clear q284 q296
 refine hK _ _ (tP hs hd zl ?_)
 clear hK K hs hd zl s284 s296
 intro a hs hd zl
 replace hB := hB.trans hbel
 have hPl : l1.length = 12 := by rw [hl1.out, List.length_append, hPH.out]; rfl
 replace hP0 : Is (([] : List Int) ++ be32 S.a ++ be32 S.b ++ be32 S.c) l1 := (by have h1 := hl1.out; rw [← hP0.out] at h1; exact h1.symm)
 clear hPH hown hbs hbel hl1
 have hPH := Is.hid hPl
 have hown := hown1
 clear hPl hown1
 refine tail_op rfl (fun K hK => ?_)
 have q297 := gL zl 0
 go_simp
 clear q297
 refine hK _ _ ?_
 clear hK K
 obtain ⟨s297, s296, s295, s293, s290, s287, s284, -, -, -, s281, s24, s280, -, -⟩ := zl
 refine act_put (d := 24) _ hs hd (by decide) [(280, _), (281, _), (284, _), (287, _), (290, _), (293, _), (295, _), (296, _), (297, _)] ⟨s280, s281, s284, s287, s290, s293, s295, s296, s297, trivial⟩ rfl ?_
 clear hs hd s24 s280 s281 s284 s287 s290 s293 s295 s296 s297
 intro a hs hd zl
 refine fl2 [.eq 298 _] 1 hs hd zl
  ⟨(stp rfl fun a u hb hs hl hd K hK => by have s281 := gL hl 2; clear hd; go_simp; exact kE hK hs),
   trivial⟩ ?_
 clear hs hd zl
 intro a w hb hs hd zl hh
 replace zl := lH hh 0 zl
 clear hh
 replace hown := hown.after hb
 replace hB := bz_then hB hb
 clear hb
 show wpList _ _ _ [_] _ _
 refine tail_op rfl (fun K hK => ?_)
 have q298 := gL zl 0
 go_simp
 clear q298
 refine hK _ _ ?_
 clear hK K
 obtain ⟨s298, s24, s280, s281, -, -, -, -, -, -, -, -⟩ := zl
 refine act_put (d := 281) _ hs hd (by decide) [(24, _), (280, _), (298, _)] ⟨s24, s280, s298, trivial⟩ rfl ?_
 clear hs hd s24 s280 s281 s298
 intro a hs hd zl
 change Code.wp _ (ssB 16) (Exit.then (Code.rounds _ _ _ 5) _) _ _
 conv => arg 2; whnf
 refine wp_seq ?_
 refine wp_region_list ?_
 show wpList _ _ _ [_] _ _
 refine tail_op rfl (fun K hK => ?_)
 have q281 := gL zl 0
 go_simp
 clear q281
 refine hK _ _ (tP hs hd zl ?_)
 clear hK K hs hd zl
 intro a hs hd zl
 refine wp_seq ?_
 refine wp_cond_true (vL zl 0) ?_
 refine wp_skip ?_
 refine wp_seq ?_
 refine wp_block ?_
 refine wp_seq ?_
 refine fl2 [.eq 283 _] 1 hs hd zl
  ⟨(stp rfl fun a u hb hs hl hd K hK => by have s280 := gL hl 3; have s281 := gL hl 1; clear hd; go_simp; exact kE hK hs),
   trivial⟩ ?_
 clear hs hd zl
 intro a w hb hs hd zl hh
 replace zl := lH hh 0 zl
 clear hh
 replace hown := hown.after hb
 replace hB := bz_then hB hb
 clear hb
 show wpList _ _ _ [_] _ _
 refine tail_op rfl (fun K hK => ?_)
 have q283 := gL zl 0
 go_simp
 clear q283
 refine hK _ _ (tP hs hd zl ?_)
 clear hK K hs hd zl
 intro a hs hd zl
 have hu : U32 S.d := by have h := hU; unfold St32 at h; simp only [h]
 unfold U32 at hu
 have w1 : IntKind.u8.wrap (S.d / 16777216) = S.d / 16777216 := (IntKind.wrap_u8' _).trans (by omega)
 have w2 : IntKind.u8.wrap (S.d / 65536) = S.d / 65536 % 256 := IntKind.wrap_u8' _
 have w3 : IntKind.u8.wrap (S.d / 256) = S.d / 256 % 256 := IntKind.wrap_u8' _
 have w4 : IntKind.u8.wrap S.d = S.d % 256 := IntKind.wrap_u8' _
 have w5 : IntKind.u8.wrap (S.d.fdiv 16777216) = S.d / 16777216 := by rw [Int.fdiv_eq_ediv_of_nonneg _ (by decide)]; exact w1
 have w6 : IntKind.u8.wrap (S.d.fdiv 65536) = S.d / 65536 % 256 := by rw [Int.fdiv_eq_ediv_of_nonneg _ (by decide)]; exact w2
 have w7 : IntKind.u8.wrap (S.d.fdiv 256) = S.d / 256 % 256 := by rw [Int.fdiv_eq_ediv_of_nonneg _ (by decide)]; exact w3
 clear hu
 refine fl2 [.eq 284 _, .eq 285 _, .eq 286 _, .eq 287 _, .eq 288 _, .eq 289 _, .eq 290 _, .eq 291 _, .eq 292 _, .eq 293 _, .eq 294 _, .eq 295 _] 12 hs hd zl
  ⟨(stp rfl fun a u hb hs hl hd K hK => by have s24 := gL hl 4; clear hd; go_simp; exact kE hK hs),
   (stp rfl fun a u hb hs hl hd K hK => by have s26 := gL hl 0; clear hd; go_simp; exact kE hK hs),
   (stp rfl fun a u hb hs hl hd K hK => by have s285 := gD hd 1; clear hd; go_simp; exact kE hK hs),
   (stp rfl fun a u hb hs hl hd K hK => by have s286 := gD hd 2; clear hd; go_simp; exact kE hK hs),
   (stp rfl fun a u hb hs hl hd K hK => by have s26 := gL hl 0; clear hd; go_simp; exact kE hK hs),
   (stp rfl fun a u hb hs hl hd K hK => by have s288 := gD hd 4; clear hd; go_simp; exact kE hK hs),
   (stp rfl fun a u hb hs hl hd K hK => by have s289 := gD hd 5; clear hd; go_simp; exact kE hK hs),
   (stp rfl fun a u hb hs hl hd K hK => by have s26 := gL hl 0; clear hd; go_simp; exact kE hK hs),
   (stp rfl fun a u hb hs hl hd K hK => by have s291 := gD hd 7; clear hd; go_simp; exact kE hK hs),
   (stp rfl fun a u hb hs hl hd K hK => by have s292 := gD hd 8; clear hd; go_simp; exact kE hK hs),
   (stp rfl fun a u hb hs hl hd K hK => by have s26 := gL hl 0; clear hd; go_simp; exact kE hK hs),
   (stp rfl fun a u hb hs hl hd K hK => by have s294 := gD hd 10; clear hd; go_simp; exact kE hK hs),
   trivial⟩ ?_
 clear hs hd zl
 intro a w hb hs hd zl hh
 replace zl := lH hh 0 zl
 replace zl := lH hh 3 zl
 replace zl := lH hh 6 zl
 replace zl := lH hh 9 zl
 replace zl := lH hh 11 zl
 clear hh
 replace hown := hown.after hb
 replace hB := bz_then hB hb
 clear hb
 show wpList _ _ _ [_, _, _] _ _
 refine tail_op rfl (fun K hK => ?_)
 have q287 := gL zl 3
 have q290 := gL zl 2
 have q293 := gL zl 1
 have q295 := gL zl 0
 go_simp
 clear q287 q290 q293 q295
 refine hK _ _ (tP hs hd zl ?_)
 clear hK K hs hd zl
 intro a hs hd zl
 clear w1 w2 w3 w4 w5 w6 w7
 generalize hw1 : World.alloc w _ = u1
 have hbs : Bs u1 (some ⟨w.heap.size, 0, none⟩) (be32 S.d) := by rw [← hw1]; exact bs_u8s (Blk.new w 5 _)
 have hB1 : Below w.heap.size w u1 := by rw [← hw1]; exact bz_alloc (bz_refl w) _
 replace hB := bz_then hB hB1
 replace hown := hown.after hB1
 clear hw1 hB1
 refine tail_op rfl (fun K hK => ?_)
 have q284 := gL zl 5
 have q296 := gL zl 0
 have s284 := vL zl 5
 have s296 := vL zl 0
 refine op_app_u8 (.tmp 284) (.tmp 296) rfl (l2 := be32 S.d) (c2 := 4) s284 s296 hown hbs (by have := hPH.out; rw [this]; simp [be32]) hB.size ?_
 intro l1 A1 c1 u2 hl1 _ hown1 hbel _ _
 clear q284 q296
 refine hK _ _ (tP hs hd zl ?_)
 clear hK K hs hd zl s284 s296
 intro a hs hd zl
 replace hB := hB.trans hbel
 have hPl : l1.length = 16 := by rw [hl1.out, List.length_append, hPH.out]; rfl
 replace hP0 : Is (([] : List Int) ++ be32 S.a ++ be32 S.b ++ be32 S.c ++ be32 S.d) l1 := (by have h1 := hl1.out; rw [← hP0.out] at h1; exact h1.symm)
 clear hPH hown hbs hbel hl1
 have hPH := Is.hid hPl
 have hown := hown1
 clear hPl hown1
 refine tail_op rfl (fun K hK => ?_)
 have q297 := gL zl 0
 go_simp
 clear q297
 refine hK _ _ ?_
 clear hK K
 obtain ⟨s297, s296, s295, s293, s290, s287, s284, -, -, -, s281, s24, s280, -, -⟩ := zl
 refine act_put (d := 24) _ hs hd (by decide) [(280, _), (281, _), (284, _), (287, _), (290, _), (293, _), (295, _), (296, _), (297, _)] ⟨s280, s281, s284, s287, s290, s293, s295, s296, s297, trivial⟩ rfl ?_
 clear hs hd s24 s280 s281 s284 s287 s290 s293 s295 s296 s297
 intro a hs hd zl
 refine fl2 [.eq 298 _] 1 hs hd zl
  ⟨(stp rfl fun a u hb hs hl hd K hK => by have s281 := gL hl 2; clear hd; go_simp; exact kE hK hs),
   trivial⟩ ?_
 clear hs hd zl
 intro a w hb hs hd zl hh
 replace zl := lH hh 0 zl
 clear hh
 replace hown := hown.after hb
 replace hB := bz_then hB hb
 clear hb
 show wpList _ _ _ [_] _ _
 refine tail_op rfl (fun K hK => ?_)
 have q298 := gL zl 0
 go_simp
 clear q298
 refine hK _ _ ?_
 clear hK K
 obtain ⟨s298, s24, s280, s281, -, -, -, -, -, -, -, -⟩ := zl
 refine act_put (d := 281) _ hs hd (by decide) [(24, _), (280, _), (298, _)] ⟨s24, s280, s298, trivial⟩ rfl ?_
 clear hs hd s24 s280 s281 s298
 intro a hs hd zl
 change Code.wp _ (ssB 16) (Exit.then (Code.rounds _ _ _ 4) _) _ _
 conv => arg 2; whnf
 refine wp_seq ?_
 refine wp_region_list ?_
 show wpList _ _ _ [_] _ _
 refine tail_op rfl (fun K hK => ?_)
 have q281 := gL zl 0
 go_simp
 clear q281
 refine hK _ _ (tP hs hd zl ?_)
 clear hK K hs hd zl
 intro a hs hd zl
 refine wp_seq ?_
 refine wp_cond_true (vL zl 0) ?_
 refine wp_skip ?_
 refine wp_seq ?_
 refine wp_block ?_
 refine wp_seq ?_
 refine fl2 [.eq 283 _] 1 hs hd zl
  ⟨(stp rfl fun a u hb hs hl hd K hK => by have s280 := gL hl 3; have s281 := gL hl 1; clear hd; go_simp; exact kE hK hs),
   trivial⟩ ?_
 clear hs hd zl
 intro a w hb hs hd zl hh
 replace zl := lH hh 0 zl
 clear hh
 replace hown := hown.after hb
 replace hB := bz_then hB hb
 clear hb
 show wpList _ _ _ [_] _ _
 refine tail_op rfl (fun K hK => ?_)
 have q283 := gL zl 0
 go_simp
 clear q283
 refine hK _ _ (tP hs hd zl ?_)
 clear hK K hs hd zl
 intro a hs hd zl
 have hu : U32 S.e := by have h := hU; unfold St32 at h; simp only [h]
 unfold U32 at hu
 have w1 : IntKind.u8.wrap (S.e / 16777216) = S.e / 16777216 := (IntKind.wrap_u8' _).trans (by omega)
 have w2 : IntKind.u8.wrap (S.e / 65536) = S.e / 65536 % 256 := IntKind.wrap_u8' _
 have w3 : IntKind.u8.wrap (S.e / 256) = S.e / 256 % 256 := IntKind.wrap_u8' _
 have w4 : IntKind.u8.wrap S.e = S.e % 256 := IntKind.wrap_u8' _
 have w5 : IntKind.u8.wrap (S.e.fdiv 16777216) = S.e / 16777216 := by rw [Int.fdiv_eq_ediv_of_nonneg _ (by decide)]; exact w1
 have w6 : IntKind.u8.wrap (S.e.fdiv 65536) = S.e / 65536 % 256 := by rw [Int.fdiv_eq_ediv_of_nonneg _ (by decide)]; exact w2
 have w7 : IntKind.u8.wrap (S.e.fdiv 256) = S.e / 256 % 256 := by rw [Int.fdiv_eq_ediv_of_nonneg _ (by decide)]; exact w3
 clear hu
 refine fl2 [.eq 284 _, .eq 285 _, .eq 286 _, .eq 287 _, .eq 288 _, .eq 289 _, .eq 290 _, .eq 291 _, .eq 292 _, .eq 293 _, .eq 294 _, .eq 295 _] 12 hs hd zl
  ⟨(stp rfl fun a u hb hs hl hd K hK => by have s24 := gL hl 4; clear hd; go_simp; exact kE hK hs),
   (stp rfl fun a u hb hs hl hd K hK => by have s26 := gL hl 0; clear hd; go_simp; exact kE hK hs),
   (stp rfl fun a u hb hs hl hd K hK => by have s285 := gD hd 1; clear hd; go_simp; exact kE hK hs),
   (stp rfl fun a u hb hs hl hd K hK => by have s286 := gD hd 2; clear hd; go_simp; exact kE hK hs),
   (stp rfl fun a u hb hs hl hd K hK => by have s26 := gL hl 0; clear hd; go_simp; exact kE hK hs),
   (stp rfl fun a u hb hs hl hd K hK => by have s288 := gD hd 4; clear hd; go_simp; exact kE hK hs),
   (stp rfl fun a u hb hs hl hd K hK => by have s289 := gD hd 5; clear hd; go_simp; exact kE hK hs),
   (stp rfl fun a u hb hs hl hd K hK => by have s26 := gL hl 0; clear hd; go_simp; exact kE hK hs),
   (stp rfl fun a u hb hs hl hd K hK => by have s291 := gD hd 7; clear hd; go_simp; exact kE hK hs),
   (stp rfl fun a u hb hs hl hd K hK => by have s292 := gD hd 8; clear hd; go_simp; exact kE hK hs),
   (stp rfl fun a u hb hs hl hd K hK => by have s26 := gL hl 0; clear hd; go_simp; exact kE hK hs),
   (stp rfl fun a u hb hs hl hd K hK => by have s294 := gD hd 10; clear hd; go_simp; exact kE hK hs),
   trivial⟩ ?_
 clear hs hd zl
 intro a w hb hs hd zl hh
 replace zl := lH hh 0 zl
 replace zl := lH hh 3 zl
 replace zl := lH hh 6 zl
 replace zl := lH hh 9 zl
 replace zl := lH hh 11 zl
 clear hh
 replace hown := hown.after hb
 replace hB := bz_then hB hb
 clear hb
 show wpList _ _ _ [_, _, _] _ _
 refine tail_op rfl (fun K hK => ?_)
 have q287 := gL zl 3
 have q290 := gL zl 2
 have q293 := gL zl 1
 have q295 := gL zl 0
 go_simp
 clear q287 q290 q293 q295
 refine hK _ _ (tP hs hd zl ?_)
 clear hK K hs hd zl
 intro a hs hd zl
 clear w1 w2 w3 w4 w5 w6 w7
 generalize hw1 : World.alloc w _ = u1
 have hbs : Bs u1 (some ⟨w.heap.size, 0, none⟩) (be32 S.e) := by rw [← hw1]; exact bs_u8s (Blk.new w 5 _)
 have hB1 : Below w.heap.size w u1 := by rw [← hw1]; exact bz_alloc (bz_refl w) _
 replace hB := bz_then hB hB1
 replace hown := hown.after hB1
 clear hw1 hB1
 refine tail_op rfl (fun K hK => ?_)
 have q284 := gL zl 5
 have q296 := gL zl 0
 have s284 := vL zl 5
 have s296 := vL zl 0
 refine op_app_u8 (.tmp 284) (.tmp 296) rfl (l2 := be32 S.e) (c2 := 4) s284 s296 hown hbs (by have := hPH.out; rw [this]; simp [be32]) hB.size ?_
 intro l1 A1 c1 u2 hl1 _ hown1 hbel _ _
 clear q284 q296
 refine hK _ _ (tP hs hd zl ?_)
 clear hK K hs hd zl s284 s296
 intro a hs hd zl
 replace hB := hB.trans hbel
 have hPl : l1.length = 20 := by rw [hl1.out, List.length_append, hPH.out]; rfl
 replace hP0 : Is (([] : List Int) ++ be32 S.a ++ be32 S.b ++ be32 S.c ++ be32 S.d ++ be32 S.e) l1 := (by have h1 := hl1.out; rw [← hP0.out] at h1; exact h1.symm)
 clear hPH hown hbs hbel hl1
 have hPH := Is.hid hPl
 have hown := hown1
 clear hPl hown1
 refine tail_op rfl (fun K hK => ?_)
 have q297 := gL zl 0
 go_simp
 clear q297
 refine hK _ _ ?_
 clear hK K
 obtain ⟨s297, s296, s295, s293, s290, s287, s284, -, -, -, s281, s24, s280, -, -⟩ := zl
 refine act_put (d := 24) _ hs hd (by decide) [(280, _), (281, _), (284, _), (287, _), (290, _), (293, _), (295, _), (296, _), (297, _)] ⟨s280, s281, s284, s287, s290, s293, s295, s296, s297, trivial⟩ rfl ?_
 clear hs hd s24 s280 s281 s284 s287 s290 s293 s295 s296 s297
 intro a hs hd zl
 refine fl2 [.eq 298 _] 1 hs hd zl
  ⟨(stp rfl fun a u hb hs hl hd K hK => by have s281 := gL hl 2; clear hd; go_simp; exact kE hK hs),
   trivial⟩ ?_
 clear hs hd zl
 intro a w hb hs hd zl hh
 replace zl := lH hh 0 zl
 clear hh
 replace hown := hown.after hb
 replace hB := bz_then hB hb
 clear hb
 show wpList _ _ _ [_] _ _
 refine tail_op rfl (fun K hK => ?_)
 have q298 := gL zl 0
 go_simp
 clear q298
 refine hK _ _ ?_
 clear hK K
 obtain ⟨s298, s24, s280, s281, -, -, -, -, -, -, -, -⟩ := zl
 refine act_put (d := 281) _ hs hd (by decide) [(24, _), (280, _), (298, _)] ⟨s24, s280, s298, trivial⟩ rfl ?_
 clear hs hd s24 s280 s281 s298
 intro a hs hd zl
 change Code.wp _ (ssB 16) (Exit.then (Code.rounds _ _ _ 3) _) _ _
 conv => arg 2; whnf
 refine wp_seq ?_
 refine wp_region_list ?_
 show wpList _ _ _ [_] _ _
 refine tail_op rfl (fun K hK => ?_)
 have q281 := gL zl 0
 go_simp
 clear q281
 refine hK _ _ (tP hs hd zl ?_)
 clear hK K hs hd zl
 intro a hs hd zl
 refine wp_seq ?_
 refine wp_cond_true (vL zl 0) ?_
 refine wp_skip ?_
 refine wp_seq ?_
 refine wp_block ?_
 refine wp_seq ?_
 refine fl2 [.eq 283 _] 1 hs hd zl
  ⟨(stp rfl fun a u hb hs hl hd K hK => by have s280 := gL hl 3; have s281 := gL hl 1; clear hd; go_simp; exact kE hK hs),
   trivial⟩ ?_
 clear hs hd zl
 intro a w hb hs hd zl hh
 replace zl := lH hh 0 zl
 clear hh
 replace hown := hown.after hb
 replace hB := bz_then hB hb
 clear hb
 show wpList _ _ _ [_] _ _
 refine tail_op rfl (fun K hK => ?_)
 have q283 := gL zl 0
 go_simp
 clear q283
 refine hK _ _ (tP hs hd zl ?_)
 clear hK K hs hd zl
 intro a hs hd zl
 have hu : U32 S.f := by have h := hU; unfold St32 at h; simp only [h]
 unfold U32 at hu
 have w1 : IntKind.u8.wrap (S.f / 16777216) = S.f / 16777216 := (IntKind.wrap_u8' _).trans (by omega)
 have w2 : IntKind.u8.wrap (S.f / 65536) = S.f / 65536 % 256 := IntKind.wrap_u8' _
 have w3 : IntKind.u8.wrap (S.f / 256) = S.f / 256 % 256 := IntKind.wrap_u8' _
 have w4 : IntKind.u8.wrap S.f = S.f % 256 := IntKind.wrap_u8' _
 have w5 : IntKind.u8.wrap (S.f.fdiv 16777216) = S.f / 16777216 := by rw [Int.fdiv_eq_ediv_of_nonneg _ (by decide)]; exact w1
 have w6 : IntKind.u8.wrap (S.f.fdiv 65536) = S.f / 65536 % 256 := by rw [Int.fdiv_eq_ediv_of_nonneg _ (by decide)]; exact w2
 have w7 : IntKind.u8.wrap (S.f.fdiv 256) = S.f / 256 % 256 := by rw [Int.fdiv_eq_ediv_of_nonneg _ (by decide)]; exact w3
 clear hu
 refine fl2 [.eq 284 _, .eq 285 _, .eq 286 _, .eq 287 _, .eq 288 _, .eq 289 _, .eq 290 _, .eq 291 _, .eq 292 _, .eq 293 _, .eq 294 _, .eq 295 _] 12 hs hd zl
  ⟨(stp rfl fun a u hb hs hl hd K hK => by have s24 := gL hl 4; clear hd; go_simp; exact kE hK hs),
   (stp rfl fun a u hb hs hl hd K hK => by have s26 := gL hl 0; clear hd; go_simp; exact kE hK hs),
   (stp rfl fun a u hb hs hl hd K hK => by have s285 := gD hd 1; clear hd; go_simp; exact kE hK hs),
   (stp rfl fun a u hb hs hl hd K hK => by have s286 := gD hd 2; clear hd; go_simp; exact kE hK hs),
   (stp rfl fun a u hb hs hl hd K hK => by have s26 := gL hl 0; clear hd; go_simp; exact kE hK hs),
   (stp rfl fun a u hb hs hl hd K hK => by have s288 := gD hd 4; clear hd; go_simp; exact kE hK hs),
   (stp rfl fun a u hb hs hl hd K hK => by have s289 := gD hd 5; clear hd; go_simp; exact kE hK hs),
   (stp rfl fun a u hb hs hl hd K hK => by have s26 := gL hl 0; clear hd; go_simp; exact kE hK hs),
   (stp rfl fun a u hb hs hl hd K hK => by have s291 := gD hd 7; clear hd; go_simp; exact kE hK hs),
   (stp rfl fun a u hb hs hl hd K hK => by have s292 := gD hd 8; clear hd; go_simp; exact kE hK hs),
   (stp rfl fun a u hb hs hl hd K hK => by have s26 := gL hl 0; clear hd; go_simp; exact kE hK hs),
   (stp rfl fun a u hb hs hl hd K hK => by have s294 := gD hd 10; clear hd; go_simp; exact kE hK hs),
   trivial⟩ ?_
 clear hs hd zl
 intro a w hb hs hd zl hh
 replace zl := lH hh 0 zl
 replace zl := lH hh 3 zl
 replace zl := lH hh 6 zl
 replace zl := lH hh 9 zl
 replace zl := lH hh 11 zl
 clear hh
 replace hown := hown.after hb
 replace hB := bz_then hB hb
 clear hb
 show wpList _ _ _ [_, _, _] _ _
 refine tail_op rfl (fun K hK => ?_)
 have q287 := gL zl 3
 have q290 := gL zl 2
 have q293 := gL zl 1
 have q295 := gL zl 0
 go_simp
 clear q287 q290 q293 q295
 refine hK _ _ (tP hs hd zl ?_)
 clear hK K hs hd zl
 intro a hs hd zl
 clear w1 w2 w3 w4 w5 w6 w7
 generalize hw1 : World.alloc w _ = u1
 have hbs : Bs u1 (some ⟨w.heap.size, 0, none⟩) (be32 S.f) := by rw [← hw1]; exact bs_u8s (Blk.new w 5 _)
 have hB1 : Below w.heap.size w u1 := by rw [← hw1]; exact bz_alloc (bz_refl w) _
 replace hB := bz_then hB hB1
 replace hown := hown.after hB1
 clear hw1 hB1
 refine tail_op rfl (fun K hK => ?_)
 have q284 := gL zl 5
 have q296 := gL zl 0
 have s284 := vL zl 5
 have s296 := vL zl 0
 refine op_app_u8 (.tmp 284) (.tmp 296) rfl (l2 := be32 S.f) (c2 := 4) s284 s296 hown hbs (by have := hPH.out; rw [this]; simp [be32]) hB.size ?_
 intro l1 A1 c1 u2 hl1 _ hown1 hbel _ _
 clear q284 q296
 refine hK _ _ (tP hs hd zl ?_)
 clear hK K hs hd zl s284 s296
 intro a hs hd zl
 replace hB := hB.trans hbel
 have hPl : l1.length = 24 := by rw [hl1.out, List.length_append, hPH.out]; rfl
 replace hP0 : Is (([] : List Int) ++ be32 S.a ++ be32 S.b ++ be32 S.c ++ be32 S.d ++ be32 S.e ++ be32 S.f) l1 := (by have h1 := hl1.out; rw [← hP0.out] at h1; exact h1.symm)
 clear hPH hown hbs hbel hl1
 have hPH := Is.hid hPl
 have hown := hown1
 clear hPl hown1
 refine tail_op rfl (fun K hK => ?_)
 have q297 := gL zl 0
 go_simp
 clear q297
 refine hK _ _ ?_
 clear hK K
 obtain ⟨s297, s296, s295, s293, s290, s287, s284, -, -, -, s281, s24, s280, -, -⟩ := zl
 refine act_put (d := 24) _ hs hd (by decide) [(280, _), (281, _), (284, _), (287, _), (290, _), (293, _), (295, _), (296, _), (297, _)] ⟨s280, s281, s284, s287, s290, s293, s295, s296, s297, trivial⟩ rfl ?_
 clear hs hd s24 s280 s281 s284 s287 s290 s293 s295 s296 s297
 intro a hs hd zl
 refine fl2 [.eq 298 _] 1 hs hd zl
  ⟨(stp rfl fun a u hb hs hl hd K hK => by have s281 := gL hl 2; clear hd; go_simp; exact kE hK hs),
   trivial⟩ ?_
 clear hs hd zl
 intro a w hb hs hd zl hh
 replace zl := lH hh 0 zl
 clear hh
 replace hown := hown.after hb
 replace hB := bz_then hB hb
 clear hb
 show wpList _ _ _ [_] _ _
 refine tail_op rfl (fun K hK => ?_)
 have q298 := gL zl 0
 go_simp
 clear q298
 refine hK _ _ ?_
 clear hK K
 obtain ⟨s298, s24, s280, s281, -, -, -, -, -, -, -, -⟩ := zl
 refine act_put (d := 281) _ hs hd (by decide) [(24, _), (280, _), (298, _)] ⟨s24, s280, s298, trivial⟩ rfl ?_
 clear hs hd s24 s280 s281 s298
 intro a hs hd zl
 change Code.wp _ (ssB 16) (Exit.then (Code.rounds _ _ _ 2) _) _ _
 conv => arg 2; whnf
 refine wp_seq ?_
 refine wp_region_list ?_
 show wpList _ _ _ [_] _ _
 refine tail_op rfl (fun K hK => ?_)
 have q281 := gL zl 0
 go_simp
 clear q281
 refine hK _ _ (tP hs hd zl ?_)
 clear hK K hs hd zl
 intro a hs hd zl
 refine wp_seq ?_
 refine wp_cond_true (vL zl 0) ?_
 refine wp_skip ?_
 refine wp_seq ?_
 refine wp_block ?_
 refine wp_seq ?_
 refine fl2 [.eq 283 _] 1 hs hd zl
  ⟨(stp rfl fun a u hb hs hl hd K hK => by have s280 := gL hl 3; have s281 := gL hl 1; clear hd; go_simp; exact kE hK hs),
   trivial⟩ ?_
 clear hs hd zl
 intro a w hb hs hd zl hh
 replace zl := lH hh 0 zl
 clear hh
 replace hown := hown.after hb
 replace hB := bz_then hB hb
 clear hb
 show wpList _ _ _ [_] _ _
 refine tail_op rfl (fun K hK => ?_)
 have q283 := gL zl 0
 go_simp
 clear q283
 refine hK _ _ (tP hs hd zl ?_)
 clear hK K hs hd zl
 intro a hs hd zl
 have hu : U32 S.g := by have h := hU; unfold St32 at h; simp only [h]
 unfold U32 at hu
 have w1 : IntKind.u8.wrap (S.g / 16777216) = S.g / 16777216 := (IntKind.wrap_u8' _).trans (by omega)
 have w2 : IntKind.u8.wrap (S.g / 65536) = S.g / 65536 % 256 := IntKind.wrap_u8' _
 have w3 : IntKind.u8.wrap (S.g / 256) = S.g / 256 % 256 := IntKind.wrap_u8' _
 have w4 : IntKind.u8.wrap S.g = S.g % 256 := IntKind.wrap_u8' _
 have w5 : IntKind.u8.wrap (S.g.fdiv 16777216) = S.g / 16777216 := by rw [Int.fdiv_eq_ediv_of_nonneg _ (by decide)]; exact w1
 have w6 : IntKind.u8.wrap (S.g.fdiv 65536) = S.g / 65536 % 256 := by rw [Int.fdiv_eq_ediv_of_nonneg _ (by decide)]; exact w2
 have w7 : IntKind.u8.wrap (S.g.fdiv 256) = S.g / 256 % 256 := by rw [Int.fdiv_eq_ediv_of_nonneg _ (by decide)]; exact w3
 clear hu
 refine fl2 [.eq 284 _, .eq 285 _, .eq 286 _, .eq 287 _, .eq 288 _, .eq 289 _, .eq 290 _, .eq 291 _, .eq 292 _, .eq 293 _, .eq 294 _, .eq 295 _] 12 hs hd zl
  ⟨(stp rfl fun a u hb hs hl hd K hK => by have s24 := gL hl 4; clear hd; go_simp; exact kE hK hs),
   (stp rfl fun a u hb hs hl hd K hK => by have s26 := gL hl 0; clear hd; go_simp; exact kE hK hs),
   (stp rfl fun a u hb hs hl hd K hK => by have s285 := gD hd 1; clear hd; go_simp; exact kE hK hs),
   (stp rfl fun a u hb hs hl hd K hK => by have s286 := gD hd 2; clear hd; go_simp; exact kE hK hs),
   (stp rfl fun a u hb hs hl hd K hK => by have s26 := gL hl 0; clear hd; go_simp; exact kE hK hs),
   (stp rfl fun a u hb hs hl hd K hK => by have s288 := gD hd 4; clear hd; go_simp; exact kE hK hs),
   (stp rfl fun a u hb hs hl hd K hK => by have s289 := gD hd 5; clear hd; go_simp; exact kE hK hs),
   (stp rfl fun a u hb hs hl hd K hK => by have s26 := gL hl 0; clear hd; go_simp; exact kE hK hs),
   (stp rfl fun a u hb hs hl hd K hK => by have s291 := gD hd 7; clear hd; go_simp; exact kE hK hs),
   (stp rfl fun a u hb hs hl hd K hK => by have s292 := gD hd 8; clear hd; go_simp; exact kE hK hs),
   (stp rfl fun a u hb hs hl hd K hK => by have s26 := gL hl 0; clear hd; go_simp; exact kE hK hs),
   (stp rfl fun a u hb hs hl hd K hK => by have s294 := gD hd 10; clear hd; go_simp; exact kE hK hs),
   trivial⟩ ?_
 clear hs hd zl
 intro a w hb hs hd zl hh
 replace zl := lH hh 0 zl
 replace zl := lH hh 3 zl
 replace zl := lH hh 6 zl
 replace zl := lH hh 9 zl
 replace zl := lH hh 11 zl
 clear hh
 replace hown := hown.after hb
 replace hB := bz_then hB hb
 clear hb
 show wpList _ _ _ [_, _, _] _ _
 refine tail_op rfl (fun K hK => ?_)
 have q287 := gL zl 3
 have q290 := gL zl 2
 have q293 := gL zl 1
 have q295 := gL zl 0
 go_simp
 clear q287 q290 q293 q295
 refine hK _ _ (tP hs hd zl ?_)
 clear hK K hs hd zl
 intro a hs hd zl
 clear w1 w2 w3 w4 w5 w6 w7
 generalize hw1 : World.alloc w _ = u1
 have hbs : Bs u1 (some ⟨w.heap.size, 0, none⟩) (be32 S.g) := by rw [← hw1]; exact bs_u8s (Blk.new w 5 _)
 have hB1 : Below w.heap.size w u1 := by rw [← hw1]; exact bz_alloc (bz_refl w) _
 replace hB := bz_then hB hB1
 replace hown := hown.after hB1
 clear hw1 hB1
 refine tail_op rfl (fun K hK => ?_)
 have q284 := gL zl 5
 have q296 := gL zl 0
 have s284 := vL zl 5
 have s296 := vL zl 0
 refine op_app_u8 (.tmp 284) (.tmp 296) rfl (l2 := be32 S.g) (c2 := 4) s284 s296 hown hbs (by have := hPH.out; rw [this]; simp [be32]) hB.size ?_
 intro l1 A1 c1 u2 hl1 _ hown1 hbel _ _
 clear q284 q296
 refine hK _ _ (tP hs hd zl ?_)
 clear hK K hs hd zl s284 s296
 intro a hs hd zl
 replace hB := hB.trans hbel
 have hPl : l1.length = 28 := by rw [hl1.out, List.length_append, hPH.out]; rfl
 replace hP0 : Is (([] : List Int) ++ be32 S.a ++ be32 S.b ++ be32 S.c ++ be32 S.d ++ be32 S.e ++ be32 S.f ++ be32 S.g) l1 := (by have h1 := hl1.out; rw [← hP0.out] at h1; exact h1.symm)
 clear hPH hown hbs hbel hl1
 have hPH := Is.hid hPl
 have hown := hown1
 clear hPl hown1
 refine tail_op rfl (fun K hK => ?_)
 have q297 := gL zl 0
 go_simp
 clear q297
 refine hK _ _ ?_
 clear hK K
 obtain ⟨s297, s296, s295, s293, s290, s287, s284, -, -, -, s281, s24, s280, -, -⟩ := zl
 refine act_put (d := 24) _ hs hd (by decide) [(280, _), (281, _), (284, _), (287, _), (290, _), (293, _), (295, _), (296, _), (297, _)] ⟨s280, s281, s284, s287, s290, s293, s295, s296, s297, trivial⟩ rfl ?_
 clear hs hd s24 s280 s281 s284 s287 s290 s293 s295 s296 s297
 intro a hs hd zl
 refine fl2 [.eq 298 _] 1 hs hd zl
  ⟨(stp rfl fun a u hb hs hl hd K hK => by have s281 := gL hl 2; clear hd; go_simp; exact kE hK hs),
   trivial⟩ ?_
 clear hs hd zl
 intro a w hb hs hd zl hh
 replace zl := lH hh 0 zl
 clear hh
 replace hown := hown.after hb
 replace hB := bz_then hB hb
 clear hb
 show wpList _ _ _ [_] _ _
 refine tail_op rfl (fun K hK => ?_)
 have q298 := gL zl 0
 go_simp
 clear q298
 refine hK _ _ ?_
 clear hK K
 obtain ⟨s298, s24, s280, s281, -, -, -, -, -, -, -, -⟩ := zl
 refine act_put (d := 281) _ hs hd (by decide) [(24, _), (280, _), (298, _)] ⟨s24, s280, s298, trivial⟩ rfl ?_
 clear hs hd s24 s280 s281 s298
 intro a hs hd zl
 change Code.wp _ (ssB 16) (Exit.then (Code.rounds _ _ _ 1) _) _ _
 conv => arg 2; whnf
 refine wp_seq ?_
 refine wp_region_list ?_
 show wpList _ _ _ [_] _ _
 refine tail_op rfl (fun K hK => ?_)
 have q281 := gL zl 0
 go_simp
 clear q281
 refine hK _ _ (tP hs hd zl ?_)
 clear hK K hs hd zl
 intro a hs hd zl
 refine wp_seq ?_
 refine wp_cond_true (vL zl 0) ?_
 refine wp_skip ?_
 refine wp_seq ?_
 refine wp_block ?_
 refine wp_seq ?_
 refine fl2 [.eq 283 _] 1 hs hd zl
  ⟨(stp rfl fun a u hb hs hl hd K hK => by have s280 := gL hl 3; have s281 := gL hl 1; clear hd; go_simp; exact kE hK hs),
   trivial⟩ ?_
 clear hs hd zl
 intro a w hb hs hd zl hh
 replace zl := lH hh 0 zl
 clear hh
 replace hown := hown.after hb
 replace hB := bz_then hB hb
 clear hb
 show wpList _ _ _ [_] _ _
 refine tail_op rfl (fun K hK => ?_)
 have q283 := gL zl 0
 go_simp
 clear q283
 refine hK _ _ (tP hs hd zl ?_)
 clear hK K hs hd zl
 intro a hs hd zl
 have hu : U32 S.h := by have h := hU; unfold St32 at h; simp only [h]
 unfold U32 at hu
 have w1 : IntKind.u8.wrap (S.h / 16777216) = S.h / 16777216 := (IntKind.wrap_u8' _).trans (by omega)
 have w2 : IntKind.u8.wrap (S.h / 65536) = S.h / 65536 % 256 := IntKind.wrap_u8' _
 have w3 : IntKind.u8.wrap (S.h / 256) = S.h / 256 % 256 := IntKind.wrap_u8' _
 have w4 : IntKind.u8.wrap S.h = S.h % 256 := IntKind.wrap_u8' _
 have w5 : IntKind.u8.wrap (S.h.fdiv 16777216) = S.h / 16777216 := by rw [Int.fdiv_eq_ediv_of_nonneg _ (by decide)]; exact w1
 have w6 : IntKind.u8.wrap (S.h.fdiv 65536) = S.h / 65536 % 256 := by rw [Int.fdiv_eq_ediv_of_nonneg _ (by decide)]; exact w2
 have w7 : IntKind.u8.wrap (S.h.fdiv 256) = S.h / 256 % 256 := by rw [Int.fdiv_eq_ediv_of_nonneg _ (by decide)]; exact w3
 clear hu
 refine fl2 [.eq 284 _, .eq 285 _, .eq 286 _, .eq 287 _, .eq 288 _, .eq 289 _, .eq 290 _, .eq 291 _, .eq 292 _, .eq 293 _, .eq 294 _, .eq 295 _] 12 hs hd zl
  ⟨(stp rfl fun a u hb hs hl hd K hK => by have s24 := gL hl 4; clear hd; go_simp; exact kE hK hs),
   (stp rfl fun a u hb hs hl hd K hK => by have s26 := gL hl 0; clear hd; go_simp; exact kE hK hs),
   (stp rfl fun a u hb hs hl hd K hK => by have s285 := gD hd 1; clear hd; go_simp; exact kE hK hs),
   (stp rfl fun a u hb hs hl hd K hK => by have s286 := gD hd 2; clear hd; go_simp; exact kE hK hs),
   (stp rfl fun a u hb hs hl hd K hK => by have s26 := gL hl 0; clear hd; go_simp; exact kE hK hs),
   (stp rfl fun a u hb hs hl hd K hK => by have s288 := gD hd 4; clear hd; go_simp; exact kE hK hs),
   (stp rfl fun a u hb hs hl hd K hK => by have s289 := gD hd 5; clear hd; go_simp; exact kE hK hs),
   (stp rfl fun a u hb hs hl hd K hK => by have s26 := gL hl 0; clear hd; go_simp; exact kE hK hs),
   (stp rfl fun a u hb hs hl hd K hK => by have s291 := gD hd 7; clear hd; go_simp; exact kE hK hs),
   (stp rfl fun a u hb hs hl hd K hK => by have s292 := gD hd 8; clear hd; go_simp; exact kE hK hs),
   (stp rfl fun a u hb hs hl hd K hK => by have s26 := gL hl 0; clear hd; go_simp; exact kE hK hs),
   (stp rfl fun a u hb hs hl hd K hK => by have s294 := gD hd 10; clear hd; go_simp; exact kE hK hs),
   trivial⟩ ?_
 clear hs hd zl
 intro a w hb hs hd zl hh
 replace zl := lH hh 0 zl
 replace zl := lH hh 3 zl
 replace zl := lH hh 6 zl
 replace zl := lH hh 9 zl
 replace zl := lH hh 11 zl
 clear hh
 replace hown := hown.after hb
 replace hB := bz_then hB hb
 clear hb
 show wpList _ _ _ [_, _, _] _ _
 refine tail_op rfl (fun K hK => ?_)
 have q287 := gL zl 3
 have q290 := gL zl 2
 have q293 := gL zl 1
 have q295 := gL zl 0
 go_simp
 clear q287 q290 q293 q295
 refine hK _ _ (tP hs hd zl ?_)
 clear hK K hs hd zl
 intro a hs hd zl
 clear w1 w2 w3 w4 w5 w6 w7
 generalize hw1 : World.alloc w _ = u1
 have hbs : Bs u1 (some ⟨w.heap.size, 0, none⟩) (be32 S.h) := by rw [← hw1]; exact bs_u8s (Blk.new w 5 _)
 have hB1 : Below w.heap.size w u1 := by rw [← hw1]; exact bz_alloc (bz_refl w) _
 replace hB := bz_then hB hB1
 replace hown := hown.after hB1
 clear hw1 hB1
 refine tail_op rfl (fun K hK => ?_)
 have q284 := gL zl 5
 have q296 := gL zl 0
 have s284 := vL zl 5
 have s296 := vL zl 0
 refine op_app_u8 (.tmp 284) (.tmp 296) rfl (l2 := be32 S.h) (c2 := 4) s284 s296 hown hbs (by have := hPH.out; rw [this]; simp [be32]) hB.size ?_
 intro l1 A1 c1 u2 hl1 _ hown1 hbel _ _
 clear q284 q296
 refine hK _ _ (tP hs hd zl ?_)
 clear hK K hs hd zl s284 s296
 intro a hs hd zl
 replace hB := hB.trans hbel
 have hPl : l1.length = 32 := by rw [hl1.out, List.length_append, hPH.out]; rfl
 replace hP0 : Is (([] : List Int) ++ be32 S.a ++ be32 S.b ++ be32 S.c ++ be32 S.d ++ be32 S.e ++ be32 S.f ++ be32 S.g ++ be32 S.h) l1 := (by have h1 := hl1.out; rw [← hP0.out] at h1; exact h1.symm)
 clear hPH hown hbs hbel hl1
 have hPH := Is.hid hPl
 have hown := hown1
 clear hPl hown1
 refine tail_op rfl (fun K hK => ?_)
 have q297 := gL zl 0
 go_simp
 clear q297
 refine hK _ _ ?_
 clear hK K
 obtain ⟨s297, s296, s295, s293, s290, s287, s284, -, -, -, s281, s24, s280, -, -⟩ := zl
 refine act_put (d := 24) _ hs hd (by decide) [(280, _), (281, _), (284, _), (287, _), (290, _), (293, _), (295, _), (296, _), (297, _)] ⟨s280, s281, s284, s287, s290, s293, s295, s296, s297, trivial⟩ rfl ?_
 clear hs hd s24 s280 s281 s284 s287 s290 s293 s295 s296 s297
 intro a hs hd zl
 refine fl2 [.eq 298 _] 1 hs hd zl
  ⟨(stp rfl fun a u hb hs hl hd K hK => by have s281 := gL hl 2; clear hd; go_simp; exact kE hK hs),
   trivial⟩ ?_
 clear hs hd zl
 intro a w hb hs hd zl hh
 replace zl := lH hh 0 zl
 clear hh
 replace hown := hown.after hb
 replace hB := bz_then hB hb
 clear hb
 show wpList _ _ _ [_] _ _
 refine tail_op rfl (fun K hK => ?_)
 have q298 := gL zl 0
 go_simp
 clear q298
 refine hK _ _ ?_
 clear hK K
 obtain ⟨s298, s24, s280, s281, -, -, -, -, -, -, -, -⟩ := zl
 refine act_put (d := 281) _ hs hd (by decide) [(24, _), (280, _), (298, _)] ⟨s24, s280, s298, trivial⟩ rfl ?_
 clear hs hd s24 s280 s281 s298
 intro a hs hd zl
 change Code.wp _ (ssB 16) (Exit.then (Code.rounds _ _ _ 0) _) _ _
 conv => arg 2; whnf
 refine wp_seq ?_
 refine wp_region_list ?_
 show wpList _ _ _ [_] _ _
 refine tail_op rfl (fun K hK => ?_)
 have q281 := gL zl 0
 go_simp
 clear q281
 refine hK _ _ (tP hs hd zl ?_)
 clear hK K hs hd zl
 intro a hs hd zl
 refine wp_seq ?_
 refine wp_cond_false (vL zl 0) ?_
 refine wp_exit ?_
 obtain ⟨s282, s281, s24, s280, -, -⟩ := zl
 exact hQ a w _ _ _ hP0.out.symm hs hd ⟨s24, trivial⟩ hB hown

end Go.Proofs.YtcmllcmcbamlbaaDoor
