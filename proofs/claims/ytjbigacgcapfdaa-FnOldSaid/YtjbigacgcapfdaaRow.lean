/- Laws: an aggregate stored whole into a block, or into a part of it; loaded whole out of a part. -/
import Derived.Test.YtjbigacgcapfdaaBase
namespace Go.Proofs.Ytjbigacgcapfdaa
open Go.RowKit

theorem setRow_alloc_at (w : World) (cur cs : Array Value) (t : TypeId) (n : Nat) (hn : n = w.heap.size) : (w.alloc (.cells cur t)).setRow n cs = w.alloc (.cells cs t) := by
  subst hn
  show World.setRow (w.alloc (.cells cur t)) w.heap.size cs = w.alloc (.cells cs t)
  unfold World.setRow
  have h1 : (w.alloc (.cells cur t)) = { w with heap := w.heap.push (.cells cur t) } := rfl
  have h2 : (w.alloc (.cells cs t)) = { w with heap := w.heap.push (.cells cs t) } := rfl
  rw [h1, h2]
  congr 1
  apply Array.ext
  · simp
  · intro i hi hi'
    simp only [Array.getElem_modify, Array.getElem_push]
    simp at hi
    by_cases h : w.heap.size = i
    · subst h; simp
    · rw [if_neg h]
      have : i < w.heap.size := by omega
      simp [this]
theorem below_setRow {B : Nat} {a w : World} (h : Below B a w) {g : Nat} (hg : B ≤ g) (cs : Array Value) : Below B a (w.setRow g cs) :=
  h.trans ⟨rfl, rfl, rfl, by simp, fun k hk => setRow_other _ _ _ _ (by omega)⟩
theorem Blk.setRow {w : World} {g : Nat} {t : TypeId} {cs : Array Value} (h : Blk w g t cs) (cs' : Array Value) : Blk (w.setRow g cs') g t cs' := setRow_heap _ _ _ _ _ _ h
theorem Blk.setRow_far {w : World} {g g' : Nat} {t : TypeId} {cs : Array Value} (h : Blk w g t cs) (hn : g ≠ g') (cs' : Array Value) : Blk (w.setRow g' cs') g t cs := (setRow_other _ _ _ _ hn).trans h
/-- What a block holds behind a store of several cells from o on. -/
def putAt (cur : Array Value) (o : Nat) (cs : Array Value) : Array Value := (cur.toList.take o ++ cs.toList ++ cur.toList.drop (o + cs.size)).toArray

section
variable {P : Program} {ops : Array Oper} {rest : List Oper} {o : Oper} {a : Act} {w : World} {Q : Exit → Act → World → Prop}
theorem run_store_part (ty : TypeId) (g off : Nat) (t : TypeId) (cur cs : Array Value) (hg : Blk w g t cur) (hoff : off + cs.size ≤ cur.size) (hi : (P.info? ty).map (·.size) = some cs.size) (h1 : ∀ v ∈ cs.toList, v.oneCell' = true) :
    (storeVar ty ⟨g, off, none⟩ (.agg cs)).run P w = .ok () (w.setRow g (putAt cur off cs)) := by
  cases hq : P.info? ty with
  | none => simp [hq] at hi
  | some i =>
    have hs : i.size = cs.size := by simpa [hq] using hi
    have h := run_storeCells_at (P := P) g off t cs.toList 0 cur w hg (by simpa using hoff) h1
    simp only [Nat.add_zero, Array.length_toList] at h
    simp [storeVar, Sem.run_bind, Value.cells, sizeOf, typeInfo, hq, hs, h, putAt]
theorem wpList_store_part (hgd : o.guard = none) (ty : TypeId) (x y : Operand) (ho : o.op = .store ty x y) (g off : Nat) (hx : a.eval x = .pointer (some ⟨g, off, none⟩)) (cs : Array Value) (hy : a.eval y = .agg cs)
    (t : TypeId) (cur : Array Value) (hg : Blk w g t cur) (hoff : off + cs.size ≤ cur.size) (hi : (P.info? ty).map (·.size) = some cs.size) (h1 : ∀ v ∈ cs.toList, v.oneCell' = true)
    (h : wpList P ops Q rest (a.put o.dst undef) (w.setRow g (putAt cur off cs))) : wpList P ops Q (o :: rest) a w :=
  wpList_plain hgd fun _ hK => by
    unfold Oper.wp execOp
    simp only [ho, hx, hy, Instr.storeAt, Instr.sureAddr, Sem.run_bind, Sem.run_pure, Result.andThen_ok, run_store_part ty g off t cur cs hg hoff hi h1]
    exact hK _ _ h
theorem putAt_whole (cur cs : Array Value) (h : cs.size = cur.size) : putAt cur 0 cs = cs := by
  unfold putAt
  rw [Nat.zero_add, h, List.take_zero, List.nil_append, List.drop_of_length_le (by simp), List.append_nil]
/-- The whole block. -/
theorem wpList_store_row (hgd : o.guard = none) (ty : TypeId) (x y : Operand) (ho : o.op = .store ty x y) (g : Nat) (hx : a.eval x = .pointer (some ⟨g, 0, none⟩)) (cs : Array Value) (hy : a.eval y = .agg cs)
    (t : TypeId) (cur : Array Value) (hg : Blk w g t cur) (hs : cs.size = cur.size) (hi : (P.info? ty).map (·.size) = some cs.size) (h1 : ∀ v ∈ cs.toList, v.oneCell' = true)
    (h : wpList P ops Q rest (a.put o.dst undef) (w.setRow g cs)) : wpList P ops Q (o :: rest) a w :=
  wpList_store_part hgd ty x y ho g 0 hx cs hy t cur hg (by omega) hi h1 (by rw [putAt_whole cur cs hs]; exact h)
/-- Loaded out of a part. -/
theorem run_load_part (ty : TypeId) (g off : Nat) (t : TypeId) (cur : Array Value) (m : Nat) (d : TypeDesc) (hg : Blk w g t cur) (hoff : off + m ≤ cur.size)
    (hu : P.underlying ty = some d) (hd : (match d with | .struct _ | .array _ _ => true | _ => false) = true) (hi : (P.info? ty).map (·.size) = some m) :
    (loadVar ty ⟨g, off, none⟩).run P w = .ok (.agg (cur.extract off (off + m))) w := by
  have hlen : (cur.extract off (off + m)).toList.length = m := by simp; omega
  have hl : (loadCells ⟨g, off, none⟩ (cur.extract off (off + m)).toList.length).run P w = .ok (cur.extract off (off + m)).toList.toArray w :=
    run_loadCells_list (P := P) w ⟨g, off, none⟩ (cur.extract off (off + m)).toList (fun j v hv => by
      have hadd : (⟨g, off, none⟩ : Addr).add j = ⟨g, off + j, none⟩ := by unfold Addr.add; split <;> simp_all
      rw [hadd, hg.cell]
      have hj : j < m := by
        have := (List.getElem?_eq_some_iff.1 hv).1
        omega
      rw [← hv]
      simp [Array.getElem?_extract, hj, show j < min (off + m) cur.size - off by omega])
  cases hq : P.info? ty with
  | none => simp [hq] at hi
  | some i =>
    have hs : i.size = m := by simpa [hq] using hi
    have hagg : (isAgg ty).run P w = .ok true w := by
      unfold isAgg
      rw [Sem.run_bind, run_underlying hu w]
      cases d <;> simp_all
    rw [hlen] at hl
    simp only [Array.toArray_toList] at hl
    simp [loadVar, Sem.run_bind, hagg, sizeOf, typeInfo, hq, hs, hl]
theorem wpList_load_part (hgd : o.guard = none) (ty : TypeId) (x : Operand) (ho : o.op = .load ty x) (g off : Nat) (hx : a.eval x = .pointer (some ⟨g, off, none⟩)) (t : TypeId) (cur : Array Value) (m : Nat) (d : TypeDesc) (hg : Blk w g t cur) (hoff : off + m ≤ cur.size)
    (hu : P.underlying ty = some d) (hd : (match d with | .struct _ | .array _ _ => true | _ => false) = true) (hi : (P.info? ty).map (·.size) = some m)
    (h : wpList P ops Q rest (a.put o.dst (.agg (cur.extract off (off + m)))) w) : wpList P ops Q (o :: rest) a w :=
  wpList_plain hgd fun _ hK => by
    unfold Oper.wp execOp
    simp only [ho, hx, Instr.loadAt, Instr.sureAddr, Sem.run_bind, Sem.run_pure, Result.andThen_ok, run_load_part ty g off t cur m d hg hoff hu hd hi]
    exact hK _ _ h
/-- The end of a function whose one result lies in a block that is known whole. -/
theorem end_row {fn : Func} {R : Ending → World → Prop} {p : Tmp} {ty : TypeId} (hr : fn.results = #[.cell p ty]) (g : Nat) (hp : a.tmps.getD p undef = .pointer (some ⟨g, 0, none⟩)) (hdf : a.defers = []) (t : TypeId) (cs : Array Value) (d : TypeDesc) (hg : Blk w g t cs)
    (hu : P.underlying ty = some d) (hd : (match d with | .struct _ | .array _ _ => true | _ => false) = true) (hi : (P.info? ty).map (·.size) = some cs.size) (hR : R (.returned (.agg cs)) w) : bodyPost P fn R .ret a w :=
  bodyPost_ret (results_cell_row hr a.tmps w g t cs (0, 0) d hp hg hu hd hi) hdf hR
end
end Go.Proofs.Ytjbigacgcapfdaa
