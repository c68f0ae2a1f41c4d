/- Contracts of the small functions on times and of 'below'. -/
import Derived.Test.YtjbigacgcapfdaaChecked
import Derived.Test.YtjbigacgcapfdaaBase
namespace Go.Proofs.Ytjbigacgcapfdaa
open Go.RowKit

/-- 'below': a number from 0 to n - 1. -/
def bel (x n : Int) : Int := (if x < -x - 1 then -x - 1 else x) % n
theorem bel_range (x n : Int) (hn : 0 < n) : 0 ≤ bel x n ∧ bel x n < n := by
  unfold bel
  exact ⟨Int.emod_nonneg _ (by omega), Int.emod_lt_of_pos _ hn⟩
theorem bel_neg (x : Int) (hx : -9223372036854775808 ≤ x ∧ x ≤ 9223372036854775807) : wrap64 (-wrap64 (x + 1)) = -x - 1 := by
  unfold wrap64; omega

theorem c_below (x n : Int) (w : World) (hx : -9223372036854775808 ≤ x ∧ x ≤ 9223372036854775807) (hn : 0 < n ∧ n ≤ 9223372036854775807) :
    Calls Try.prog 4 #[.int .i64 x, .int .i64 n] w fun e w' => e = .returned (.int .i64 (bel x n)) ∧ w = w' := by
  have H := bel_neg x hx
  go_enter Try.func4, Try.ntmps4
  go_wp2
  · go_ret
    have h1 : x < -x - 1 := by assumption
    exact ⟨by unfold bel; rw [if_pos h1]; rfl, rfl⟩
  · go_ret
    have h1 : -x - 1 ≤ x := by assumption
    exact ⟨by unfold bel; rw [if_neg (by omega)]; rfl, rfl⟩

/-- 'comettypes.UnixTime'. -/
theorem c_UnixTime (s n : Int) (w : World) (hs : -9000000000000000000 ≤ s ∧ s ≤ 9000000000000000000) :
    Calls Try.prog 20 #[.int .i64 s, .int .i32 n] w fun e w' => e = .returned (.agg #[.int .i64 (s + 62135596800), .int .i32 n]) ∧ Below w.heap.size w w' := by
  go_enter Try.func20, Try.ntmps20
  go_wp2
  exact bodyPost_ret (v := .agg #[.int .i64 (s + 62135596800), .int .i32 n]) (by simp [results, Try.results20, go_sem]) rfl ⟨rfl, (Below.refl _ _).alloc (Nat.le_refl _) _⟩

/-- 'impl.moment'. -/
theorem c_moment (s n : Int) (w : World) (hs : -9000000000000000000 ≤ s ∧ s ≤ 9000000000000000000) (hn : 0 ≤ n ∧ n ≤ 2147483647) :
    Calls Try.prog 12 #[.agg #[.int .i64 s, .int .i64 n]] w fun e w' => e = .returned (.agg #[.int .i64 (s + 62135596800), .int .i32 n]) ∧ Below w.heap.size w w' := by
  go_enter Try.func12, Try.ntmps12
  go_wp2_with (go_at_call 20; refine (c_UnixTime _ _ _ (by omega)).mono ?_; rintro e w1 ⟨rfl, hb⟩; obtain ⟨hc, hf⟩ := bcell hb; have hz := hb.size; simp only [World.size_alloc] at hc hf hz)
  exact bodyPost_ret (v := .agg #[.int .i64 (s + 62135596800), .int .i32 n]) (by simp [results, Try.results12, go_sem, hc]) rfl ⟨rfl, by
    refine Below.setCell (Below.setCell ?_ (by simp) _) (by simp) _
    exact (((Below.refl _ _).alloc (Nat.le_refl _) _).alloc (by simp) _).trans (hb.mono (by simp; omega))⟩

/-- A time is later, in Bool. -/
def laterB (s n s' n' : Int) : Bool := decide (s' < s) || (decide (s = s') && decide (n' < n))

/-- '(Time).After'. -/
theorem c_After (s n s' n' : Int) (w : World) :
    Calls Try.prog 17 #[.agg #[.int .i64 s, .int .i32 n], .agg #[.int .i64 s', .int .i32 n']] w fun e w' => e = .returned (.bool (laterB s n s' n')) ∧ Below w.heap.size w w' := by
  by_cases h1 : s' < s
  · go_enter Try.func17, Try.ntmps17
    go_wp2
    go_ret
    exact ⟨by simp [laterB, h1], by (repeat' (first | exact Below.refl _ _ | exact Nat.le_refl _ | (with_reducible assumption) | refine Below.setCell ?_ ?_ _ | refine Below.alloc ?_ ?_ _ | refine below_drewN ?_ _ | refine Below.drew ?_ | (simp; done) | omega | (simp; omega) | (simp at *; omega)))⟩
  · by_cases h2 : s = s'
    · subst h2
      by_cases h3 : n' < n
      all_goals
        go_enter Try.func17, Try.ntmps17
        go_wp2
        go_ret
        exact ⟨by simp [laterB, h3], by (repeat' (first | exact Below.refl _ _ | exact Nat.le_refl _ | (with_reducible assumption) | refine Below.setCell ?_ ?_ _ | refine Below.alloc ?_ ?_ _ | refine below_drewN ?_ _ | refine Below.drew ?_ | (simp; done) | omega | (simp; omega) | (simp at *; omega)))⟩
    · have h4 : (s == s') = false := by simpa using h2
      go_enter Try.func17, Try.ntmps17
      go_wp2
      go_ret
      exact ⟨by simp [laterB, h1, h2], by (repeat' (first | exact Below.refl _ _ | exact Nat.le_refl _ | (with_reducible assumption) | refine Below.setCell ?_ ?_ _ | refine Below.alloc ?_ ?_ _ | refine below_drewN ?_ _ | refine Below.drew ?_ | (simp; done) | omega | (simp; omega) | (simp at *; omega)))⟩

/-- The time d later: seconds, nanoseconds. -/
def addS (s n d : Int) : Int := if n + d % 1000000000 ≥ 1000000000 then s + d / 1000000000 + 1 else s + d / 1000000000
def addN (n d : Int) : Int := if n + d % 1000000000 ≥ 1000000000 then n + d % 1000000000 - 1000000000 else n + d % 1000000000

/-- '(Time).Add', of a span that is not below 0. -/
theorem c_Add (s n d : Int) (w : World) (hs : 0 ≤ s ∧ s ≤ 9000000000000000000) (hn : 0 ≤ n ∧ n < 1000000000) (hd : 0 ≤ d ∧ d ≤ 9000000000000000000) :
    Calls Try.prog 16 #[.agg #[.int .i64 s, .int .i32 n], .int .i64 d] w fun e w' => e = .returned (.agg #[.int .i64 (addS s n d), .int .i32 (addN n d)]) ∧ Below w.heap.size w w' := by
  by_cases h1 : n + d % 1000000000 ≥ 1000000000
  · go_enter Try.func16, Try.ntmps16
    go_wp2
    go_quiet (fail)
    go_wp2
    exact bodyPost_ret (v := .agg #[.int .i64 (s + d / 1000000000 + 1), .int .i32 (n + d % 1000000000 - 1000000000)]) (by simp [results, Try.results16, go_sem]) rfl ⟨by unfold addS addN; rw [if_pos h1, if_pos h1],
      by (repeat' (first | exact Below.refl _ _ | exact Nat.le_refl _ | (with_reducible assumption) | refine Below.setCell ?_ ?_ _ | refine Below.alloc ?_ ?_ _ | refine below_drewN ?_ _ | refine Below.drew ?_ | (simp; done) | omega | (simp; omega) | (simp at *; omega)))⟩
  · go_enter Try.func16, Try.ntmps16
    go_wp2
    go_quiet (fail)
    go_wp2
    exact bodyPost_ret (v := .agg #[.int .i64 (s + d / 1000000000), .int .i32 (n + d % 1000000000)]) (by simp [results, Try.results16, go_sem]) rfl ⟨by unfold addS addN; rw [if_neg (by omega), if_neg (by omega)],
      by (repeat' (first | exact Below.refl _ _ | exact Nat.le_refl _ | (with_reducible assumption) | refine Below.setCell ?_ ?_ _ | refine Below.alloc ?_ ?_ _ | refine below_drewN ?_ _ | refine Below.drew ?_ | (simp; done) | omega | (simp; omega) | (simp at *; omega)))⟩

/-- What 'errors.New' hands back: a new error. -/
def NewErr (w : World) (e : Ending) (w' : World) : Prop := ∃ a : Addr, e = .returned (.iface 86 (.pointer (some a))) ∧ Below w.heap.size w w'

theorem c_New (s : ByteArray) (w : World) : Calls Try.prog 21 #[.string s] w (NewErr w) := by
  go_enter Try.func21, Try.ntmps21
  go_wp2
  go_ret
  exact ⟨_, rfl, (Below.refl _ _).alloc (Nat.le_refl _) _⟩

/-! ### The reference's times -/
theorem c_later (s n d : Int) (w : World) (hs : 0 ≤ s ∧ s ≤ 8000000000000000000) (hn : 0 ≤ n ∧ n < 1000000000) (hd : 0 ≤ d ∧ d ≤ 9000000000000000000) :
    Calls Try.prog 14 #[.agg #[.int .i64 s, .int .i64 n], .int .i64 d] w fun e w' => e = .returned (.agg #[.int .i64 (addS s n d), .int .i64 (addN n d)]) ∧ Below w.heap.size w w' := by
  by_cases h1 : n + d % 1000000000 ≥ 1000000000
  · go_enter Try.func14, Try.ntmps14
    go_wp2
    exact bodyPost_ret (v := .agg #[.int .i64 (s + d / 1000000000 + 1), .int .i64 (n + d % 1000000000 - 1000000000)]) (by simp [results, Try.results14, go_sem]) rfl ⟨by unfold addS addN; rw [if_pos h1, if_pos h1],
      by (repeat' (first | exact Below.refl _ _ | exact Nat.le_refl _ | (with_reducible assumption) | refine Below.setCell ?_ ?_ _ | refine Below.alloc ?_ ?_ _ | refine below_drewN ?_ _ | refine Below.drew ?_ | (simp; done) | omega | (simp; omega) | (simp at *; omega)))⟩
  · go_enter Try.func14, Try.ntmps14
    go_wp2
    exact bodyPost_ret (v := .agg #[.int .i64 (s + d / 1000000000), .int .i64 (n + d % 1000000000)]) (by simp [results, Try.results14, go_sem]) rfl ⟨by unfold addS addN; rw [if_neg (by omega), if_neg (by omega)],
      by (repeat' (first | exact Below.refl _ _ | exact Nat.le_refl _ | (with_reducible assumption) | refine Below.setCell ?_ ?_ _ | refine Below.alloc ?_ ?_ _ | refine below_drewN ?_ _ | refine Below.drew ?_ | (simp; done) | omega | (simp; omega) | (simp at *; omega)))⟩

theorem c_Ahead (s n s' n' : Int) (w : World) :
    Calls Try.prog 13 #[.agg #[.int .i64 s, .int .i64 n], .agg #[.int .i64 s', .int .i64 n']] w fun e w' => e = .returned (.bool (laterB s' n' s n)) ∧ Below w.heap.size w w' := by
  by_cases h1 : s < s'
  · go_enter Try.func13, Try.ntmps13
    go_wp2
    go_ret
    exact ⟨by simp [laterB, h1], by (repeat' (first | exact Below.refl _ _ | exact Nat.le_refl _ | (with_reducible assumption) | refine Below.setCell ?_ ?_ _ | refine Below.alloc ?_ ?_ _ | refine below_drewN ?_ _ | refine Below.drew ?_ | (simp; done) | omega | (simp; omega) | (simp at *; omega)))⟩
  · by_cases h2 : s = s'
    · subst h2
      by_cases h3 : n < n'
      all_goals
        go_enter Try.func13, Try.ntmps13
        go_wp2
        go_ret
        exact ⟨by simp [laterB, h3], by (repeat' (first | exact Below.refl _ _ | exact Nat.le_refl _ | (with_reducible assumption) | refine Below.setCell ?_ ?_ _ | refine Below.alloc ?_ ?_ _ | refine below_drewN ?_ _ | refine Below.drew ?_ | (simp; done) | omega | (simp; omega) | (simp at *; omega)))⟩
    · have h4 : (s == s') = false := by simpa using h2
      have h5 : ¬ s' = s := fun e => h2 e.symm
      go_enter Try.func13, Try.ntmps13
      go_wp2
      go_ret
      exact ⟨by simp [laterB, h1, h5], by (repeat' (first | exact Below.refl _ _ | exact Nat.le_refl _ | (with_reducible assumption) | refine Below.setCell ?_ ?_ _ | refine Below.alloc ?_ ?_ _ | refine below_drewN ?_ _ | refine Below.drew ?_ | (simp; done) | omega | (simp; omega) | (simp at *; omega)))⟩
end Go.Proofs.Ytjbigacgcapfdaa
