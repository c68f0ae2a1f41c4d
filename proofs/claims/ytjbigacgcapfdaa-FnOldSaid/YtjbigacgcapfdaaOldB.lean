/- FnOld: the reference's side, the levels, the law's walk. -/
import Derived.Test.YtjbigacgcapfdaaOld
namespace Go.Proofs.Ytjbigacgcapfdaa
open Go.RowKit

theorem c_sOld (s n d s' n' : Int) (w : World) (hs : 0 ≤ s ∧ s ≤ 4000000000) (hn : 0 ≤ n ∧ n < 1000000000) (hd : 0 ≤ d ∧ d ≤ 9000000000000000000) :
    Calls Try.prog 6 #[.agg #[.int .i64 0, .int .i64 0, .string ⟨#[]⟩, .int .i64 0, .int .i64 s, .int .i64 n, .slice none 0 0, .int .i64 0, .slice none 0 0, .slice none 0 0, .slice none 0 0, .slice none 0 0, .slice none 0 0, .slice none 0 0, .slice none 0 0, .slice none 0 0, .slice none 0 0, .string ⟨#[]⟩], .int .i64 d, .agg #[.int .i64 s', .int .i64 n']] w fun e w' => e = .returned (.bool (!laterB (addS s n d) (addN n d) s' n')) ∧ Below w.heap.size w w' := by
  go_enter Try.func6, Try.ntmps6
  go_upto_region 1 with (fail)
  have b1 : Blk ((w.alloc (.cells #[.int .i64 0, .int .i64 0, .string ⟨#[]⟩, .int .i64 0, .int .i64 s, .int .i64 n, .slice none 0 0, .int .i64 0, .slice none 0 0, .slice none 0 0, .slice none 0 0, .slice none 0 0, .slice none 0 0, .slice none 0 0, .slice none 0 0, .slice none 0 0, .slice none 0 0, .string ⟨#[]⟩] 36)).alloc (.cells #[.int .i64 s', .int .i64 n'] 33)) w.heap.size 36 #[.int .i64 0, .int .i64 0, .string ⟨#[]⟩, .int .i64 0, .int .i64 s, .int .i64 n, .slice none 0 0, .int .i64 0, .slice none 0 0, .slice none 0 0, .slice none 0 0, .slice none 0 0, .slice none 0 0, .slice none 0 0, .slice none 0 0, .slice none 0 0, .slice none 0 0, .string ⟨#[]⟩] := (Blk.new _ _ _).alloc _
  have b2 : Blk ((w.alloc (.cells #[.int .i64 0, .int .i64 0, .string ⟨#[]⟩, .int .i64 0, .int .i64 s, .int .i64 n, .slice none 0 0, .int .i64 0, .slice none 0 0, .slice none 0 0, .slice none 0 0, .slice none 0 0, .slice none 0 0, .slice none 0 0, .slice none 0 0, .slice none 0 0, .slice none 0 0, .string ⟨#[]⟩] 36)).alloc (.cells #[.int .i64 s', .int .i64 n'] 33)) (w.heap.size + 1) 33 #[.int .i64 s', .int .i64 n'] := by simpa using Blk.new (w.alloc (.cells #[.int .i64 0, .int .i64 0, .string ⟨#[]⟩, .int .i64 0, .int .i64 s, .int .i64 n, .slice none 0 0, .int .i64 0, .slice none 0 0, .slice none 0 0, .slice none 0 0, .slice none 0 0, .slice none 0 0, .slice none 0 0, .slice none 0 0, .slice none 0 0, .slice none 0 0, .string ⟨#[]⟩] 36)) 33 #[.int .i64 s', .int .i64 n']
  have hW : Below w.heap.size w ((w.alloc (.cells #[.int .i64 0, .int .i64 0, .string ⟨#[]⟩, .int .i64 0, .int .i64 s, .int .i64 n, .slice none 0 0, .int .i64 0, .slice none 0 0, .slice none 0 0, .slice none 0 0, .slice none 0 0, .slice none 0 0, .slice none 0 0, .slice none 0 0, .slice none 0 0, .slice none 0 0, .string ⟨#[]⟩] 36)).alloc (.cells #[.int .i64 s', .int .i64 n'] 33)) := by (repeat' (first | exact Below.refl _ _ | exact Nat.le_refl _ | (with_reducible assumption) | refine Below.setCell ?_ ?_ _ | refine Below.alloc ?_ ?_ _ | refine below_drewN ?_ _ | refine Below.drew ?_ | (simp; done) | omega | (simp; omega) | (simp at *; omega)))
  have zW : ((w.alloc (.cells #[.int .i64 0, .int .i64 0, .string ⟨#[]⟩, .int .i64 0, .int .i64 s, .int .i64 n, .slice none 0 0, .int .i64 0, .slice none 0 0, .slice none 0 0, .slice none 0 0, .slice none 0 0, .slice none 0 0, .slice none 0 0, .slice none 0 0, .slice none 0 0, .slice none 0 0, .string ⟨#[]⟩] 36)).alloc (.cells #[.int .i64 s', .int .i64 n'] 33)).heap.size = w.heap.size + 2 := by simp
  generalize ((w.alloc (.cells #[.int .i64 0, .int .i64 0, .string ⟨#[]⟩, .int .i64 0, .int .i64 s, .int .i64 n, .slice none 0 0, .int .i64 0, .slice none 0 0, .slice none 0 0, .slice none 0 0, .slice none 0 0, .slice none 0 0, .slice none 0 0, .slice none 0 0, .slice none 0 0, .slice none 0 0, .string ⟨#[]⟩] 36)).alloc (.cells #[.int .i64 s', .int .i64 n'] 33)) = W at b1 b2 hW zW ⊢
  have c1 := b1.cell
  have c2 := b2.cell
  go_region_held (fun w' => Below (W).heap.size (W) w' ∧ ∀ b o, b < (W).heap.size → w'.cell? ⟨b, o, none⟩ = (W).cell? ⟨b, o, none⟩) ((first | exact sx_drew0 _ | exact sx_drew (by assumption) | exact sx_alloc (by assumption) _ | exact sx_bytes (by assumption) _ _ | exact sx_after (by assumption) (by assumption)))
    (first
      | (go_at_call 14; refine (c_later _ _ _ _ (by omega) (by omega) (by omega)).mono ?_; rintro e w1 ⟨rfl, hb1⟩)
      | (go_at_call 13; refine (c_Ahead _ _ _ _ _).mono ?_; rintro e w2 ⟨rfl, hb2⟩))
  go_wp2
  go_ret
  exact ⟨rfl, bz_then (bz_then hW (below_undrew hb1)) hb2⟩

/-- A part from a third to all. -/
def lvlB (num den : Int) : Bool := decide (0 < den) && decide (den ≤ num * 3) && decide (num ≤ den)

theorem c_sLevel (num den : Int) (w : World) (hn : 0 ≤ num ∧ num ≤ 1099511627776) (hd : 0 ≤ den ∧ den ≤ 1099511627776) :
    Calls Try.prog 9 #[.int .i64 num, .int .i64 den] w fun e w' => e = .returned (.bool (lvlB num den)) ∧ w = w' := by
  by_cases h1 : 0 < den
  · by_cases h2 : den ≤ num * 3
    · go_enter Try.func9, Try.ntmps9
      go_wp2
      go_ret
      exact ⟨by simp [lvlB, h1, h2], rfl⟩
    · go_enter Try.func9, Try.ntmps9
      go_wp2
      go_ret
      exact ⟨by simp [lvlB, h2]; omega, rfl⟩
  · go_enter Try.func9, Try.ntmps9
    go_wp2
    go_ret
    exact ⟨by simp [lvlB, h1]; omega, rfl⟩

/-- 'ValidateTrustLevel': nil, or a new error. -/
def VtlPost (num den : Int) (w : World) (e : Ending) (w' : World) : Prop :=
  (lvlB num den = true ∧ e = .returned .nilIface ∨ lvlB num den = false ∧ ∃ a : Addr, e = .returned (.iface 86 (.pointer (some a)))) ∧ Below w.heap.size w w'

theorem c_VTL (num den : Int) (w : World) (hn : 0 ≤ num ∧ num ≤ 1099511627776) (hd : 0 ≤ den ∧ den ≤ 1099511627776) :
    Calls Try.prog 15 #[.agg #[.int .u64 num, .int .u64 den]] w (VtlPost num den w) := by
  by_cases h1 : num * 3 < den
  · go_enter Try.func15, Try.ntmps15
    go_wp2_with (go_at_call 21; refine (c_New _ _).mono ?_; rintro e w1 ⟨a, rfl, hb1⟩)
    go_ret
    exact ⟨.inr ⟨by simp [lvlB]; omega, a, rfl⟩, bz_then (bz_alloc (bz_refl _) _) hb1⟩
  · by_cases h2 : den < num
    · go_enter Try.func15, Try.ntmps15
      go_wp2_with (go_at_call 21; refine (c_New _ _).mono ?_; rintro e w1 ⟨a, rfl, hb1⟩)
      go_ret
      exact ⟨.inr ⟨by simp [lvlB]; omega, a, rfl⟩, bz_then (bz_alloc (bz_refl _) _) hb1⟩
    · by_cases h3 : den = 0
      · subst h3
        obtain rfl : num = 0 := by omega
        go_enter Try.func15, Try.ntmps15
        go_wp2_with (go_at_call 21; refine (c_New _ _).mono ?_; rintro e w1 ⟨a, rfl, hb1⟩)
        go_ret
        exact ⟨.inr ⟨by simp [lvlB], a, rfl⟩, bz_then (bz_alloc (bz_refl _) _) hb1⟩
      · have h4 : (den == 0) = false := by simpa using h3
        go_enter Try.func15, Try.ntmps15
        go_wp2_with (go_at_call 21; refine (c_New _ _).mono ?_; rintro e w1 ⟨a, rfl, hb1⟩)
        go_ret
        exact ⟨.inl ⟨by simp [lvlB]; omega, rfl⟩, bz_alloc (bz_refl _) _⟩

theorem c_iLevel (num den : Int) (w : World) (hn : 0 ≤ num ∧ num ≤ 1099511627776) (hd : 0 ≤ den ∧ den ≤ 1099511627776) :
    Calls Try.prog 8 #[.int .i64 num, .int .i64 den] w fun e w' => e = .returned (.bool (lvlB num den)) ∧ Below w.heap.size w w' := by
  have e1 : IntKind.u64.wrap num = num := IntWalk.u64_in _ (by omega)
  have e2 : IntKind.u64.wrap den = den := IntWalk.u64_in _ (by omega)
  go_enter Try.func8, Try.ntmps8
  go_wp2_with (go_at_call 15; refine (c_VTL _ _ _ hn hd).mono ?_; rintro e w1 ⟨⟨hl, rfl⟩ | ⟨hl, a, rfl⟩, hb1⟩)
  all_goals
    go_ret
    exact ⟨by rw [hl]; rfl, hb1⟩
end Go.Proofs.Ytjbigacgcapfdaa
