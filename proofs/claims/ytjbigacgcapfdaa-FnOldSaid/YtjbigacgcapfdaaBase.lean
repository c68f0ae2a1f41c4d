/- Words on memory: worlds that extend a world, blocks known whole, slices of bytes that read as lists. -/
import Derived.WalkKit
import Derived.KernelRfl
import Derived.BigQuiet
import Derived.Deep.QuietTactic
import Derived.Outline
import Derived.WalkSmall
import Derived.Lib.ConvBytes
import Derived.Deep.RegionHeld3
namespace Go.Proofs.Ytjbigacgcapfdaa
open Go.RowKit

theorem bcell {W w1 : World} (hb : Below W.heap.size W w1) : (∀ b o, b < W.heap.size → w1.cell? ⟨b, o, none⟩ = W.cell? ⟨b, o, none⟩) ∧ (∀ b o, b < W.heap.size → w1.frozen? ⟨b, o, none⟩ = W.frozen? ⟨b, o, none⟩) :=
  ⟨fun b o h => hb.cell (p := ⟨b, o, none⟩) h, fun b o h => hb.frozen (p := ⟨b, o, none⟩) h⟩

/-- A slice's three parts. -/
structure Sl where
  a : Option Addr
  n : Nat
  c : Nat

/-! ### Worlds that extend a world W: the condition of a region that draws its order -/
theorem sx_of {W w' : World} (h : Below W.heap.size W w') : Below W.heap.size W w' ∧ ∀ b o, b < W.heap.size → w'.cell? ⟨b, o, none⟩ = W.cell? ⟨b, o, none⟩ := ⟨h, (bcell h).1⟩
theorem sx_drew0 (W : World) : Below W.heap.size W W.drew ∧ ∀ b o, b < W.heap.size → W.drew.cell? ⟨b, o, none⟩ = W.cell? ⟨b, o, none⟩ := sx_of (Below.refl _ _).drew
theorem sx_drewN0 (W : World) (n : Nat) : Below W.heap.size W (W.drewN n) ∧ ∀ b o, b < W.heap.size → (W.drewN n).cell? ⟨b, o, none⟩ = W.cell? ⟨b, o, none⟩ := sx_of (below_drewN (Below.refl _ _) _)
theorem sx_drew {W w' : World} (h : Below W.heap.size W w' ∧ ∀ b o, b < W.heap.size → w'.cell? ⟨b, o, none⟩ = W.cell? ⟨b, o, none⟩) :
    Below W.heap.size W w'.drew ∧ ∀ b o, b < W.heap.size → w'.drew.cell? ⟨b, o, none⟩ = W.cell? ⟨b, o, none⟩ := sx_of h.1.drew
theorem sx_drewN {W w' : World} (h : Below W.heap.size W w' ∧ ∀ b o, b < W.heap.size → w'.cell? ⟨b, o, none⟩ = W.cell? ⟨b, o, none⟩) (n : Nat) :
    Below W.heap.size W (w'.drewN n) ∧ ∀ b o, b < W.heap.size → (w'.drewN n).cell? ⟨b, o, none⟩ = W.cell? ⟨b, o, none⟩ := sx_of (below_drewN h.1 _)
theorem sx_alloc {W w' : World} (h : Below W.heap.size W w' ∧ ∀ b o, b < W.heap.size → w'.cell? ⟨b, o, none⟩ = W.cell? ⟨b, o, none⟩) (x : Obj) :
    Below W.heap.size W (w'.alloc x) ∧ ∀ b o, b < W.heap.size → (w'.alloc x).cell? ⟨b, o, none⟩ = W.cell? ⟨b, o, none⟩ := sx_of (h.1.alloc h.1.size _)
theorem sx_after {W w' w1 : World} (h : Below W.heap.size W w' ∧ ∀ b o, b < W.heap.size → w'.cell? ⟨b, o, none⟩ = W.cell? ⟨b, o, none⟩) (hb : Below w'.heap.size w' w1) :
    Below W.heap.size W w1 ∧ ∀ b o, b < W.heap.size → w1.cell? ⟨b, o, none⟩ = W.cell? ⟨b, o, none⟩ := sx_of (h.1.trans (hb.mono h.1.size))
theorem sx_end {w W w' : World} (hW : Below w.heap.size w W) (h : Below W.heap.size W w' ∧ ∀ b o, b < W.heap.size → w'.cell? ⟨b, o, none⟩ = W.cell? ⟨b, o, none⟩) : Below w.heap.size w w' := hW.trans (h.1.mono hW.size)
theorem below_bytes {B : Nat} {W w' : World} (h : Below B W w') (hB : B ≤ w'.heap.size) (e : TypeId) (s : ByteArray) : Below B W (Lib.bytesWorld w' e s) :=
  h.trans ⟨by simp [Lib.bytesWorld, World.freeze, World.alloc, World.drew, -World.alloc_eq, -World.drew_eq], by simp [Lib.bytesWorld, World.freeze, World.alloc, World.drew, -World.alloc_eq, -World.drew_eq],
    by simp [Lib.bytesWorld, World.freeze, World.alloc, World.drew, -World.alloc_eq, -World.drew_eq], by rw [Lib.bytesWorld_size]; omega, fun k hk => Lib.bytesWorld_at_old _ _ _ _ (by omega)⟩
theorem sx_bytes {W w' : World} (h : Below W.heap.size W w' ∧ ∀ b o, b < W.heap.size → w'.cell? ⟨b, o, none⟩ = W.cell? ⟨b, o, none⟩) (e : TypeId) (s : ByteArray) :
    Below W.heap.size W (Lib.bytesWorld w' e s) ∧ ∀ b o, b < W.heap.size → (Lib.bytesWorld w' e s).cell? ⟨b, o, none⟩ = W.cell? ⟨b, o, none⟩ := sx_of (below_bytes h.1 h.1.size _ _)
theorem below_after {B : Nat} {w w1 w2 : World} (h : Below B w w1) (hB : B ≤ w1.heap.size) (k : Below w1.heap.size w1 w2) : Below B w w2 := h.trans (k.mono hB)

/-! the same, of the whole old world: no side condition -/
theorem bz_refl (w : World) : Below w.heap.size w w := Below.refl _ _
theorem bz_then {w w1 w2 : World} (h : Below w.heap.size w w1) (k : Below w1.heap.size w1 w2) : Below w.heap.size w w2 := h.trans (k.mono h.size)
theorem bz_alloc {w w1 : World} (h : Below w.heap.size w w1) (o : Obj) : Below w.heap.size w (w1.alloc o) := h.alloc h.size o
theorem bz_drew {w w1 : World} (h : Below w.heap.size w w1) : Below w.heap.size w w1.drew := h.drew
theorem bz_drewN {w w1 : World} (h : Below w.heap.size w w1) (n : Nat) : Below w.heap.size w (w1.drewN n) := below_drewN h n
theorem bz_bytes {w w1 : World} (h : Below w.heap.size w w1) (e : TypeId) (s : ByteArray) : Below w.heap.size w (Lib.bytesWorld w1 e s) := below_bytes h h.size e s
theorem below_undrew {W w1 : World} (h : Below W.drew.heap.size W.drew w1) : Below W.heap.size W w1 := ⟨h.os, h.tape, h.output, h.size, h.block⟩

/-! ### A block that is known whole -/
def Blk (w : World) (g : Nat) (t : TypeId) (cs : Array Value) : Prop := w.heap[g]? = some (.cells cs t (0, 0))
theorem Blk.lt {w : World} {g : Nat} {t : TypeId} {cs : Array Value} (h : Blk w g t cs) : g < w.heap.size := by
  rcases Nat.lt_or_ge g w.heap.size with hlt | hge
  · exact hlt
  · unfold Blk at h; rw [Array.getElem?_eq_none hge] at h; cases h
theorem Blk.cell {w : World} {g : Nat} {t : TypeId} {cs : Array Value} (h : Blk w g t cs) (i : Nat) : w.cell? ⟨g, i, none⟩ = cs[i]? := cell_of_row w g i cs t (0, 0) h
theorem Blk.free {w : World} {g : Nat} {t : TypeId} {cs : Array Value} (h : Blk w g t cs) (i : Nat) : w.frozen? ⟨g, i, none⟩ = false := by
  unfold Blk at h
  simp [World.frozen?, h]
theorem Blk.new (w : World) (t : TypeId) (cs : Array Value) : Blk (w.alloc (.cells cs t)) w.heap.size t cs := heap_alloc_new w _
theorem Blk.below {w w' : World} {g : Nat} {t : TypeId} {cs : Array Value} (h : Blk w g t cs) {B : Nat} (hb : Below B w w') (hg : g < B) : Blk w' g t cs := (hb.block g hg).trans h
theorem Blk.after {w w' : World} {g : Nat} {t : TypeId} {cs : Array Value} (h : Blk w g t cs) (hb : Below w.heap.size w w') : Blk w' g t cs := h.below hb h.lt
theorem Blk.alloc {w : World} {g : Nat} {t : TypeId} {cs : Array Value} (h : Blk w g t cs) (o : Obj) : Blk (w.alloc o) g t cs := (Below.heap_alloc w o g h.lt).trans h
theorem Blk.drew {w : World} {g : Nat} {t : TypeId} {cs : Array Value} (h : Blk w g t cs) : Blk w.drew g t cs := h
theorem Blk.drewN {w : World} {g : Nat} {t : TypeId} {cs : Array Value} (h : Blk w g t cs) (n : Nat) : Blk (w.drewN n) g t cs := h
theorem Blk.set_ {w : World} {g : Nat} {t : TypeId} {cs : Array Value} (h : Blk w g t cs) (i : Nat) (u : Value) : Blk (w.setCell ⟨g, i, none⟩ u) g t (cs.setIfInBounds i u) := by
  unfold Blk at h ⊢
  simp [World.setCell, Array.getElem?_modify, h]
theorem Blk.far {w : World} {g : Nat} {t : TypeId} {cs : Array Value} (h : Blk w g t cs) {p : Addr} (hp : g ≠ p.block) (u : Value) : Blk (w.setCell p u) g t cs := (Below.heap_setCell w p u g hp).trans h

/-! ### A slice of bytes that reads as a list -/
def Bs (w : World) (A : Option Addr) (l : List Int) : Prop :=
  ∀ i, i < l.length → ∃ b o, A = some ⟨b, o, none⟩ ∧ b < w.heap.size ∧ w.cell? ⟨b, o + i, none⟩ = some (.int .u8 (l.getD i 0))
theorem Bs.nil (w : World) (A : Option Addr) : Bs w A [] := fun i hi => by simp at hi
theorem Bs.below {w w' : World} {A : Option Addr} {l : List Int} (h : Bs w A l) (hb : Below w.heap.size w w') : Bs w' A l := fun i hi => by
  obtain ⟨b, o, e, hlt, hc⟩ := h i hi
  exact ⟨b, o, e, Nat.lt_of_lt_of_le hlt hb.size, (hb.cell (p := ⟨b, o + i, none⟩) hlt).trans hc⟩
theorem Bs.alloc {w : World} {A : Option Addr} {l : List Int} (h : Bs w A l) (o : Obj) : Bs (w.alloc o) A l := h.below ((Below.refl _ _).alloc (Nat.le_refl _) _)
/-- A string's bytes. -/
def bytesOf (s : ByteArray) : List Int := s.data.toList.map fun b => ((b.toNat : Nat) : Int)
theorem bytesOf_length (s : ByteArray) : (bytesOf s).length = s.size := by
  unfold bytesOf
  rw [List.length_map]
  exact Array.length_toList
theorem bytesOf_range (s : ByteArray) : ∀ x ∈ bytesOf s, 0 ≤ x ∧ x < 256 := by
  intro x hx
  simp only [bytesOf, List.mem_map] at hx
  obtain ⟨b, _, rfl⟩ := hx
  have := b.toNat_lt
  omega
theorem bs_conv (w : World) (e : TypeId) (s : ByteArray) : Bs (Lib.bytesWorld w e s) (some ⟨w.heap.size, 0, none⟩) (bytesOf s) := fun i hi => by
  have hi' : i < s.size := by rw [bytesOf_length] at hi; exact hi
  refine ⟨w.heap.size, 0, rfl, by rw [Lib.bytesWorld_size]; omega, ?_⟩
  rw [Nat.zero_add, Lib.bytesWorld_cell w e s i hi']
  congr 2
  have hs : i < s.data.toList.length := by rw [Array.length_toList]; exact hi'
  simp only [bytesOf, List.getD_eq_getElem?_getD, List.getElem?_map]
  rw [List.getElem?_eq_getElem hs]
  rfl
theorem bs_conv' (w : World) (e : TypeId) (s : ByteArray) (n : Nat) (hn : n = w.heap.size) : Bs (Lib.bytesWorld w e s) (some ⟨n, 0, none⟩) (bytesOf s) := hn ▸ bs_conv w e s
end Go.Proofs.Ytjbigacgcapfdaa
