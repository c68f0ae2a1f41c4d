/- Contracts of FnOld's road. -/
import Derived.Test.YtjbigacgcapfdaaHeader
namespace Go.Proofs.Ytjbigacgcapfdaa
open Go.RowKit

theorem laterB_shift (s n d s' n' c : Int) : laterB (addS (s + c) n d) (addN n d) (s' + c) n' = laterB (addS s n d) (addN n d) s' n' := by
  have e : addS (s + c) n d = addS s n d + c := by unfold addS; split <;> omega
  rw [e]
  unfold laterB
  congr 1
  · rw [decide_eq_decide]; omega
  · congr 1; rw [decide_eq_decide]; omega

theorem c_Expired (g gh : Nat) (s n d s' n' : Int) (w : World) (hs : 0 ≤ s ∧ s ≤ 8000000000000000000) (hn : 0 ≤ n ∧ n < 1000000000) (hd : 0 ≤ d ∧ d ≤ 9000000000000000000) (hg : g < w.heap.size) (hgh : gh < w.heap.size)
    (h0 : w.cell? ⟨g, 0, none⟩ = some (.pointer (some ⟨gh, 0, none⟩))) (h1 : w.cell? ⟨gh, 4, none⟩ = some (.int .i64 s)) (h2 : w.cell? ⟨gh, 5, none⟩ = some (.int .i32 n)) :
    Calls Try.prog 10 #[.pointer (some ⟨g, 0, none⟩), .int .i64 d, .agg #[.int .i64 s', .int .i32 n']] w fun e w' => e = .returned (.bool (!laterB (addS s n d) (addN n d) s' n')) ∧ Below w.heap.size w w' := by
  go_enter Try.func10, Try.ntmps10
  go_wp2_with (first
    | (go_at_call 16; refine (c_Add _ _ _ _ (by omega) (by omega) (by omega)).mono ?_; rintro e w1 ⟨rfl, hb1⟩; obtain ⟨hc1, hf1⟩ := bcell hb1; have hz1 := hb1.size; try simp only [World.size_alloc, World.size_setCell, World.size_drew, World.heap_drewN, heap_drew] at hc1 hf1 hz1; have l1 : w.heap.size < w1.heap.size := by omega)
    | (go_at_call 17; refine (c_After _ _ _ _ _).mono ?_; rintro e w2 ⟨rfl, hb2⟩; obtain ⟨hc2, hf2⟩ := bcell hb2; have hz2 := hb2.size; try simp only [World.size_alloc, World.size_setCell, World.size_drew, World.heap_drewN, heap_drew] at hc2 hf2 hz2))
  go_ret
  exact ⟨rfl, bz_then (bz_alloc (bz_then (bz_alloc (bz_refl _) _) hb1) _) hb2⟩

/-- What 'impl.signed' leaves of a header with nothing but a time. -/
def SignedAt (s n : Int) (w : World) (e : Ending) (w' : World) : Prop :=
  ∃ g gh, e = .returned (.pointer (some ⟨g, 0, none⟩)) ∧ g < w'.heap.size ∧ gh < w'.heap.size ∧ w'.cell? ⟨g, 0, none⟩ = some (.pointer (some ⟨gh, 0, none⟩)) ∧ w'.cell? ⟨gh, 4, none⟩ = some (.int .i64 (s + 62135596800)) ∧ w'.cell? ⟨gh, 5, none⟩ = some (.int .i32 n) ∧ Below w.heap.size w w'

theorem c_signed0 (s n : Int) (w : World) (hs : 0 ≤ s ∧ s ≤ 8000000000000000000) (hn : 0 ≤ n ∧ n < 1000000000) :
    Calls Try.prog 11 #[.agg #[.int .i64 0, .int .i64 0, .string ⟨#[]⟩, .int .i64 0, .int .i64 s, .int .i64 n, .slice none 0 0, .int .i64 0, .slice none 0 0, .slice none 0 0, .slice none 0 0, .slice none 0 0, .slice none 0 0, .slice none 0 0, .slice none 0 0, .slice none 0 0, .slice none 0 0, .string ⟨#[]⟩], .agg #[.int .i64 0, .int .i64 0, .slice none 0 0, .int .i64 0, .slice none 0 0, .slice none 0 0]] w (SignedAt s n w) := by
  go_enter Try.func11, Try.ntmps11
  go_upto_region 1 with (fail)
  have b1 : Blk ((w.alloc (.cells #[.int .i64 0, .int .i64 0, .string ⟨#[]⟩, .int .i64 0, .int .i64 s, .int .i64 n, .slice none 0 0, .int .i64 0, .slice none 0 0, .slice none 0 0, .slice none 0 0, .slice none 0 0, .slice none 0 0, .slice none 0 0, .slice none 0 0, .slice none 0 0, .slice none 0 0, .string ⟨#[]⟩] 30)).alloc (.cells #[.int .i64 0, .int .i64 0, .slice none 0 0, .int .i64 0, .slice none 0 0, .slice none 0 0] 45)) w.heap.size 30 #[.int .i64 0, .int .i64 0, .string ⟨#[]⟩, .int .i64 0, .int .i64 s, .int .i64 n, .slice none 0 0, .int .i64 0, .slice none 0 0, .slice none 0 0, .slice none 0 0, .slice none 0 0, .slice none 0 0, .slice none 0 0, .slice none 0 0, .slice none 0 0, .slice none 0 0, .string ⟨#[]⟩] := (Blk.new _ _ _).alloc _
  have b2 : Blk ((w.alloc (.cells #[.int .i64 0, .int .i64 0, .string ⟨#[]⟩, .int .i64 0, .int .i64 s, .int .i64 n, .slice none 0 0, .int .i64 0, .slice none 0 0, .slice none 0 0, .slice none 0 0, .slice none 0 0, .slice none 0 0, .slice none 0 0, .slice none 0 0, .slice none 0 0, .slice none 0 0, .string ⟨#[]⟩] 30)).alloc (.cells #[.int .i64 0, .int .i64 0, .slice none 0 0, .int .i64 0, .slice none 0 0, .slice none 0 0] 45)) (w.heap.size + 1) 45 #[.int .i64 0, .int .i64 0, .slice none 0 0, .int .i64 0, .slice none 0 0, .slice none 0 0] := by simpa using Blk.new (w.alloc (.cells #[.int .i64 0, .int .i64 0, .string ⟨#[]⟩, .int .i64 0, .int .i64 s, .int .i64 n, .slice none 0 0, .int .i64 0, .slice none 0 0, .slice none 0 0, .slice none 0 0, .slice none 0 0, .slice none 0 0, .slice none 0 0, .slice none 0 0, .slice none 0 0, .slice none 0 0, .string ⟨#[]⟩] 30)) 45 #[.int .i64 0, .int .i64 0, .slice none 0 0, .int .i64 0, .slice none 0 0, .slice none 0 0]
  have hW : Below w.heap.size w ((w.alloc (.cells #[.int .i64 0, .int .i64 0, .string ⟨#[]⟩, .int .i64 0, .int .i64 s, .int .i64 n, .slice none 0 0, .int .i64 0, .slice none 0 0, .slice none 0 0, .slice none 0 0, .slice none 0 0, .slice none 0 0, .slice none 0 0, .slice none 0 0, .slice none 0 0, .slice none 0 0, .string ⟨#[]⟩] 30)).alloc (.cells #[.int .i64 0, .int .i64 0, .slice none 0 0, .int .i64 0, .slice none 0 0, .slice none 0 0] 45)) := by (repeat' (first | exact Below.refl _ _ | exact Nat.le_refl _ | (with_reducible assumption) | refine Below.setCell ?_ ?_ _ | refine Below.alloc ?_ ?_ _ | refine below_drewN ?_ _ | refine Below.drew ?_ | (simp; done) | omega | (simp; omega) | (simp at *; omega)))
  have zW : ((w.alloc (.cells #[.int .i64 0, .int .i64 0, .string ⟨#[]⟩, .int .i64 0, .int .i64 s, .int .i64 n, .slice none 0 0, .int .i64 0, .slice none 0 0, .slice none 0 0, .slice none 0 0, .slice none 0 0, .slice none 0 0, .slice none 0 0, .slice none 0 0, .slice none 0 0, .slice none 0 0, .string ⟨#[]⟩] 30)).alloc (.cells #[.int .i64 0, .int .i64 0, .slice none 0 0, .int .i64 0, .slice none 0 0, .slice none 0 0] 45)).heap.size = w.heap.size + 2 := by simp
  generalize ((w.alloc (.cells #[.int .i64 0, .int .i64 0, .string ⟨#[]⟩, .int .i64 0, .int .i64 s, .int .i64 n, .slice none 0 0, .int .i64 0, .slice none 0 0, .slice none 0 0, .slice none 0 0, .slice none 0 0, .slice none 0 0, .slice none 0 0, .slice none 0 0, .slice none 0 0, .slice none 0 0, .string ⟨#[]⟩] 30)).alloc (.cells #[.int .i64 0, .int .i64 0, .slice none 0 0, .int .i64 0, .slice none 0 0, .slice none 0 0] 45)) = W at b1 b2 hW zW ⊢
  have c1 := b1.cell
  have c2 := b2.cell
  go_region_held (fun w' => Below (W).heap.size (W) w' ∧ ∀ b o, b < (W).heap.size → w'.cell? ⟨b, o, none⟩ = (W).cell? ⟨b, o, none⟩) ((first | exact sx_drew0 _ | exact sx_drew (by assumption) | exact sx_alloc (by assumption) _ | exact sx_bytes (by assumption) _ _ | exact sx_after (by assumption) (by assumption)))
    (first | (go_at_call 18; refine (c_block ⟨none, 0, 0⟩ ⟨none, 0, 0⟩ 0 _ (by omega)).mono ?_; rintro e w1 ⟨rfl, hb1⟩))
  obtain ⟨hc1, hf1⟩ := bcell (w1 := w1) (W := W) ⟨hb1.os, hb1.tape, hb1.output, hb1.size, hb1.block⟩
  have hz1 : W.heap.size ≤ w1.heap.size := hb1.size
  have l1 : w.heap.size + 1 < w1.heap.size := by omega
  have l0 : w.heap.size < w1.heap.size := by omega
  go_wp2
  refine wp_loop_rounds 1 ?_
  rw [rounds_succ]
  go_wp2_with (go_at_call 19; refine (c_header 0 0 0 s n 0 ⟨#[]⟩ ⟨#[]⟩ ⟨none, 0, 0⟩ ⟨none, 0, 0⟩ ⟨none, 0, 0⟩ ⟨none, 0, 0⟩ ⟨none, 0, 0⟩ ⟨none, 0, 0⟩ ⟨none, 0, 0⟩ ⟨none, 0, 0⟩ ⟨none, 0, 0⟩ ⟨none, 0, 0⟩ _ (by omega) (by omega) (by omega) (by omega) (by omega)).mono ?_; rintro e w2 ⟨g, p, c, rfl, hB2, hP2, hb2, hg2⟩)
  go_ret
  refine ⟨_, g, rfl, by simp, ?_, ?_, ?_, ?_, ?_⟩
  · have := hB2.lt; simp; omega
  · rw [(Blk.new _ _ _).cell]; rfl
  · rw [(hB2.alloc _).cell]; rfl
  · rw [(hB2.alloc _).cell]; rfl
  · exact bz_alloc (bz_then (bz_alloc (bz_then hW (below_undrew hb1)) _) hb2) _

/-- 'impl.Old' of a header with nothing but a time. -/
theorem c_iOld (s n d s' n' : Int) (w : World) (hs : 0 ≤ s ∧ s ≤ 4000000000) (hn : 0 ≤ n ∧ n < 1000000000) (hs' : 0 ≤ s' ∧ s' ≤ 4000000000) (hn' : 0 ≤ n' ∧ n' < 1000000000) (hd : 0 ≤ d ∧ d ≤ 9000000000000000000) :
    Calls Try.prog 5 #[.agg #[.int .i64 0, .int .i64 0, .string ⟨#[]⟩, .int .i64 0, .int .i64 s, .int .i64 n, .slice none 0 0, .int .i64 0, .slice none 0 0, .slice none 0 0, .slice none 0 0, .slice none 0 0, .slice none 0 0, .slice none 0 0, .slice none 0 0, .slice none 0 0, .slice none 0 0, .string ⟨#[]⟩], .int .i64 d, .agg #[.int .i64 s', .int .i64 n']] w fun e w' => e = .returned (.bool (!laterB (addS s n d) (addN n d) s' n')) ∧ Below w.heap.size w w' := by
  go_enter Try.func5, Try.ntmps5
  go_upto_region 1 with (fail)
  have b1 : Blk ((w.alloc (.cells #[.int .i64 0, .int .i64 0, .string ⟨#[]⟩, .int .i64 0, .int .i64 s, .int .i64 n, .slice none 0 0, .int .i64 0, .slice none 0 0, .slice none 0 0, .slice none 0 0, .slice none 0 0, .slice none 0 0, .slice none 0 0, .slice none 0 0, .slice none 0 0, .slice none 0 0, .string ⟨#[]⟩] 30)).alloc (.cells #[.int .i64 s', .int .i64 n'] 24)) w.heap.size 30 #[.int .i64 0, .int .i64 0, .string ⟨#[]⟩, .int .i64 0, .int .i64 s, .int .i64 n, .slice none 0 0, .int .i64 0, .slice none 0 0, .slice none 0 0, .slice none 0 0, .slice none 0 0, .slice none 0 0, .slice none 0 0, .slice none 0 0, .slice none 0 0, .slice none 0 0, .string ⟨#[]⟩] := (Blk.new _ _ _).alloc _
  have b2 : Blk ((w.alloc (.cells #[.int .i64 0, .int .i64 0, .string ⟨#[]⟩, .int .i64 0, .int .i64 s, .int .i64 n, .slice none 0 0, .int .i64 0, .slice none 0 0, .slice none 0 0, .slice none 0 0, .slice none 0 0, .slice none 0 0, .slice none 0 0, .slice none 0 0, .slice none 0 0, .slice none 0 0, .string ⟨#[]⟩] 30)).alloc (.cells #[.int .i64 s', .int .i64 n'] 24)) (w.heap.size + 1) 24 #[.int .i64 s', .int .i64 n'] := by simpa using Blk.new (w.alloc (.cells #[.int .i64 0, .int .i64 0, .string ⟨#[]⟩, .int .i64 0, .int .i64 s, .int .i64 n, .slice none 0 0, .int .i64 0, .slice none 0 0, .slice none 0 0, .slice none 0 0, .slice none 0 0, .slice none 0 0, .slice none 0 0, .slice none 0 0, .slice none 0 0, .slice none 0 0, .string ⟨#[]⟩] 30)) 24 #[.int .i64 s', .int .i64 n']
  have hW : Below w.heap.size w ((w.alloc (.cells #[.int .i64 0, .int .i64 0, .string ⟨#[]⟩, .int .i64 0, .int .i64 s, .int .i64 n, .slice none 0 0, .int .i64 0, .slice none 0 0, .slice none 0 0, .slice none 0 0, .slice none 0 0, .slice none 0 0, .slice none 0 0, .slice none 0 0, .slice none 0 0, .slice none 0 0, .string ⟨#[]⟩] 30)).alloc (.cells #[.int .i64 s', .int .i64 n'] 24)) := by (repeat' (first | exact Below.refl _ _ | exact Nat.le_refl _ | (with_reducible assumption) | refine Below.setCell ?_ ?_ _ | refine Below.alloc ?_ ?_ _ | refine below_drewN ?_ _ | refine Below.drew ?_ | (simp; done) | omega | (simp; omega) | (simp at *; omega)))
  have zW : ((w.alloc (.cells #[.int .i64 0, .int .i64 0, .string ⟨#[]⟩, .int .i64 0, .int .i64 s, .int .i64 n, .slice none 0 0, .int .i64 0, .slice none 0 0, .slice none 0 0, .slice none 0 0, .slice none 0 0, .slice none 0 0, .slice none 0 0, .slice none 0 0, .slice none 0 0, .slice none 0 0, .string ⟨#[]⟩] 30)).alloc (.cells #[.int .i64 s', .int .i64 n'] 24)).heap.size = w.heap.size + 2 := by simp
  generalize ((w.alloc (.cells #[.int .i64 0, .int .i64 0, .string ⟨#[]⟩, .int .i64 0, .int .i64 s, .int .i64 n, .slice none 0 0, .int .i64 0, .slice none 0 0, .slice none 0 0, .slice none 0 0, .slice none 0 0, .slice none 0 0, .slice none 0 0, .slice none 0 0, .slice none 0 0, .slice none 0 0, .string ⟨#[]⟩] 30)).alloc (.cells #[.int .i64 s', .int .i64 n'] 24)) = W at b1 b2 hW zW ⊢
  have c1 := b1.cell
  have c2 := b2.cell
  go_region_held (fun w' => Below (W).heap.size (W) w' ∧ ∀ b o, b < (W).heap.size → w'.cell? ⟨b, o, none⟩ = (W).cell? ⟨b, o, none⟩) ((first | exact sx_drew0 _ | exact sx_drew (by assumption) | exact sx_alloc (by assumption) _ | exact sx_bytes (by assumption) _ _ | exact sx_after (by assumption) (by assumption)))
    (first
      | (go_at_call 11; refine (c_signed0 _ _ _ (by omega) (by omega)).mono ?_; rintro e w1 ⟨g, gh, rfl, q1, q2, q3, q4, q5, hb1⟩)
      | (go_at_call 12; refine (c_moment _ _ _ (by omega) (by omega)).mono ?_; rintro e w2 ⟨rfl, hb2⟩)
      | (go_at_call 10; refine (c_Expired g gh _ _ _ _ _ _ (by omega) (by omega) (by omega) (by have := hb2.size; omega) (by have := hb2.size; omega) ((hb2.cell (p := ⟨g, 0, none⟩) q1).trans q3) ((hb2.cell (p := ⟨gh, 4, none⟩) q2).trans q4) ((hb2.cell (p := ⟨gh, 5, none⟩) q2).trans q5)).mono ?_; rintro e w3 ⟨rfl, hb3⟩))
  go_wp2
  go_ret
  refine ⟨?_, bz_then (bz_then (bz_then hW (below_undrew hb1)) hb2) hb3⟩
  rw [← laterB_shift s n d s' n' 62135596800]
  rfl
end Go.Proofs.Ytjbigacgcapfdaa
