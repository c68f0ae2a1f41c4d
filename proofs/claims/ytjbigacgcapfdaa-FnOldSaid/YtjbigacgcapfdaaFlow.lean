/- A law for a region that draws its order: each operation is shown ALONE, from what the operations that it waits for have left (facts that every later world keeps); behind the region all facts hold. No goal bears the frame or the region whole. -/
import Derived.Test.YtjbigacgcapfdaaRow
import Derived.Orders
namespace Go.Proofs.Ytjbigacgcapfdaa
open Go.RowKit

/-- What an operation leaves: of which slots it speaks, and what it says of them; every world that extends this one keeps it. -/
structure FItem where
  reads : List Nat
  fact : List Value → World → Prop
  keeps : ∀ vs w w', Below w.heap.size w w' → fact vs w → fact vs w'
def FItem.holds (it : FItem) (a : Act) (w : World) : Prop := it.fact (it.reads.map fun t => a.tmps.getD t undef) w
/-- A slot's value. -/
def FItem.eq (t : Nat) (v : Value) : FItem := { reads := [t], fact := fun vs _ => vs = [v], keeps := fun _ _ _ _ h => h }
/-- Nothing is said. -/
def FItem.skip : FItem := { reads := [], fact := fun _ _ => True, keeps := fun _ _ _ _ h => h }
theorem FItem.eq_holds {t : Nat} {v : Value} {a : Act} {w : World} : (FItem.eq t v).holds a w ↔ a.tmps.getD t undef = v := by simp [FItem.holds, FItem.eq]

def deps (o : Oper) : List Nat := (o.after.toList.filter fun e => Region.binds .any e).map (·.on)
def flowOk (ops : Array Oper) (rs : List (List Nat)) : Bool :=
  rs.length == ops.size && (List.range ops.size).all fun i => match ops[i]? with
    | none => false
    | some o => (deps o).all (· < i) && ((rs[i]?).getD []).all fun t => (List.range ops.size).all fun j => match (ops[j]?).bind (·.dst) with
      | some d => d != t || j == i || (deps o).contains j
      | none => true
/-- The slots that the region does not write are as they were. -/
def Same (ops : Array Oper) (a0 a : Act) : Prop :=
  a.tmps.size = a0.tmps.size ∧ a.defers = a0.defers ∧ ∀ t, (ops.toList.all fun o => o.dst != some t) = true → a.tmps.getD t undef = a0.tmps.getD t undef

theorem put_getD (a : Act) (d : Option Nat) (v : Value) (t : Nat) (h : d ≠ some t) : (a.put d v).tmps.getD t undef = a.tmps.getD t undef := by
  cases d with
  | none => rfl
  | some d =>
    have hd : d ≠ t := fun e => h (by rw [e])
    simp [Act.put, Array.getD_eq_getD_getElem?, Array.getElem?_setIfInBounds_ne hd]
theorem put_size (a : Act) (d : Option Nat) (v : Value) : (a.put d v).tmps.size = a.tmps.size := by cases d <;> simp [Act.put]
theorem put_defers (a : Act) (d : Option Nat) (v : Value) : (a.put d v).defers = a.defers := by cases d <;> rfl
theorem put_self (a : Act) (d : Nat) (v : Value) (h : d < a.tmps.size) : (a.put (some d) v).tmps.getD d undef = v := by
  simp [Act.put, Array.getD_eq_getD_getElem?, h]
theorem Same.put {ops : Array Oper} {a0 a : Act} (h : Same ops a0 a) {i : Nat} {o : Oper} (ho : ops[i]? = some o) (v : Value) : Same ops a0 (a.put o.dst v) := by
  obtain ⟨h1, h2, h3⟩ := h
  refine ⟨(put_size _ _ _).trans h1, (put_defers _ _ _).trans h2, fun t ht => ?_⟩
  rw [put_getD, h3 t ht]
  intro e
  have hm : o ∈ ops.toList := by
    rw [Array.mem_toList_iff]
    exact Array.mem_of_getElem? ho
  have := List.all_eq_true.1 ht o hm
  simp [e] at this

theorem countP_lt_of {p q : Nat → Bool} {x : Nat} : ∀ l : List Nat, (∀ y ∈ l, q y = true → p y = true) → x ∈ l → p x = true → q x = false → l.countP q < l.countP p
  | [], _, hx, _, _ => by cases hx
  | y :: l, h, hx, hp, hq => by
    have hle : l.countP q ≤ l.countP p := List.countP_mono_left (fun z hz hz' => h z (List.mem_cons_of_mem _ hz) hz')
    simp only [List.countP_cons]
    rcases List.mem_cons.1 hx with rfl | hx
    · simp [hp, hq]; omega
    · have ih := countP_lt_of l (fun z hz => h z (List.mem_cons_of_mem _ hz)) hx hp hq
      have hy := h y (List.mem_cons_self ..)
      by_cases hqy : q y = true
      · simp [hqy, hy hqy]; omega
      · simp [hqy]; split <;> omega

section
variable {P : Program} {ops : Array Oper} {Q : Exit → Act → World → Prop}
theorem flow_deps {rs : List (List Nat)} (h : flowOk ops rs = true) {i : Nat} {o : Oper} (ho : ops[i]? = some o) : ∀ j ∈ deps o, j < i := by
  simp only [flowOk, Bool.and_eq_true, List.all_eq_true, List.mem_range] at h
  have hi : i < ops.size := (Array.getElem?_eq_some_iff.1 ho).1
  have := h.2 i hi
  rw [ho] at this
  simp only [Bool.and_eq_true, List.all_eq_true, decide_eq_true_eq] at this
  exact this.1
theorem flow_reads {rs : List (List Nat)} (h : flowOk ops rs = true) {i j : Nat} {o oj : Oper} (ho : ops[i]? = some o) (hj : ops[j]? = some oj) {t : Nat} (ht : t ∈ (rs[i]?).getD []) (hd : oj.dst = some t) : j = i ∨ j ∈ deps o := by
  simp only [flowOk, Bool.and_eq_true, List.all_eq_true, List.mem_range] at h
  have hi : i < ops.size := (Array.getElem?_eq_some_iff.1 ho).1
  have := h.2 i hi
  rw [ho] at this
  simp only [Bool.and_eq_true, List.all_eq_true] at this
  have := this.2 t ht j (List.mem_range.2 (Array.getElem?_eq_some_iff.1 hj).1)
  rw [hj] at this
  simpa [hd] using this

theorem wpAny_flow (its : List FItem) (a0 : Act) (W : World) (hck : flowOk ops (its.map FItem.reads) = true)
    (hstep : ∀ (i : Nat) (o : Oper) (it : FItem), ops[i]? = some o → its[i]? = some it → ∀ a w, Below W.heap.size W w → Same ops a0 a → (∀ j ∈ deps o, ∀ (jt : FItem), its[j]? = some jt → jt.holds a w) →
      ∀ K : Act → World → Prop, (∀ v w', Below w.heap.size w w' → it.holds (a.put o.dst v) w' → K (a.put o.dst v) w') → if Region.wanted o (yielded ops a.tmps) = true then o.wp P a w K Q else K (a.put o.dst undef) w)
    (hend : ∀ a w, Below W.heap.size W w → Same ops a0 a → (∀ (i : Nat) (it : FItem), its[i]? = some it → it.holds a w) → Q .normal a w) :
    ∀ (fuel : Nat) (listed : Array Bool) (a : Act) (w : World), listed.size = ops.size → (List.range ops.size).countP (fun i => !listed.getD i true) ≤ fuel → Below W.heap.size W w → Same ops a0 a →
      (∀ (i : Nat) (o : Oper) (it : FItem), ops[i]? = some o → its[i]? = some it → listed.getD i false = true → (∀ j ∈ deps o, listed.getD j false = true) ∧ it.holds a w) → wpAny P .any ops Q fuel listed a w := by
  have hlen : its.length = ops.size := by
    simp only [flowOk, Bool.and_eq_true, beq_iff_eq, List.length_map] at hck
    exact hck.1
  -- when nothing comes up, all have come up
  have hall : ∀ (listed : Array Bool) (a : Act) (w : World), listed.size = ops.size → Region.ready .any ops listed = [] → Below W.heap.size W w → Same ops a0 a →
      (∀ (i : Nat) (o : Oper) (it : FItem), ops[i]? = some o → its[i]? = some it → listed.getD i false = true → (∀ j ∈ deps o, listed.getD j false = true) ∧ it.holds a w) → Q .normal a w := by
    intro listed a w hls hr hb hs hinv
    have hdone : ∀ i, i < ops.size → listed.getD i false = true := by
      intro i
      induction i using Nat.strongRecOn with
      | _ i ih =>
        intro hi
        by_cases hli : listed.getD i false = true
        · exact hli
        · exfalso
          obtain ⟨o, ho⟩ : ∃ o, ops[i]? = some o := ⟨ops[i], Array.getElem?_eq_getElem hi⟩
          have hd := flow_deps hck ho
          have hmem : i ∈ Region.ready .any ops listed := by
            unfold Region.ready
            rw [List.mem_filter]
            refine ⟨List.mem_range.2 hi, ?_⟩
            have h1 : listed.getD i true = false := by
              have hi' : i < listed.size := by omega
              simp [Array.getD_eq_getD_getElem?, hi'] at hli ⊢
              exact hli
            rw [h1, ho]
            simp only [Bool.not_false, Bool.true_and, Option.map_some, Option.getD_some, Array.all_eq_true']
            intro e he
            by_cases hbd : Region.binds .any e = true
            · have : e.on ∈ deps o := by
                unfold deps
                exact List.mem_map.2 ⟨e, List.mem_filter.2 ⟨Array.mem_toList_iff.2 he, hbd⟩, rfl⟩
              have hlt := hd _ this
              simp [hbd, ih e.on hlt (by omega)]
            · simp at hbd
              simp [hbd]
          rw [hr] at hmem
          cases hmem
    refine hend a w hb hs fun (i : Nat) (it : FItem) hit => ?_
    have hi : i < ops.size := by
      have := (List.getElem?_eq_some_iff.1 hit).1
      omega
    exact (hinv i ops[i] it (Array.getElem?_eq_getElem hi) hit (hdone i hi)).2
  intro fuel
  induction fuel with
  | zero =>
    intro listed a w hls hc hb hs hinv
    have hr : Region.ready .any ops listed = [] := by
      unfold Region.ready
      rw [List.filter_eq_nil_iff]
      intro i hi
      have h0 : (List.range ops.size).countP (fun i => !listed.getD i true) = 0 := by omega
      have := List.countP_eq_zero.1 h0 i hi
      simp at this
      simp [this]
    exact ⟨hr, hall listed a w hls hr hb hs hinv⟩
  | succ fuel ih =>
    intro listed a w hls hc hb hs hinv
    refine ⟨fun hr => hall listed a w hls hr hb hs hinv, fun i hi => ?_⟩
    unfold Region.ready at hi
    rw [List.mem_filter] at hi
    obtain ⟨hir, hi2⟩ := hi
    have hin : i < ops.size := List.mem_range.1 hir
    obtain ⟨o, ho⟩ : ∃ o, ops[i]? = some o := ⟨ops[i], Array.getElem?_eq_getElem hin⟩
    obtain ⟨it, hit⟩ : ∃ it, its[i]? = some it := ⟨its[i]'(by omega), List.getElem?_eq_getElem (by omega)⟩
    rw [ho] at hi2
    simp only [Bool.and_eq_true, Option.map_some, Option.getD_some, Array.all_eq_true'] at hi2
    obtain ⟨hun, hed⟩ := hi2
    have hunl : listed.getD i true = false := by simpa using hun
    have hdl : ∀ j ∈ deps o, listed.getD j false = true := by
      intro j hj
      unfold deps at hj
      obtain ⟨e, he, rfl⟩ := List.mem_map.1 hj
      obtain ⟨he1, he2⟩ := List.mem_filter.1 he
      have := hed e (Array.mem_toList_iff.1 he1)
      simpa [he2] using this
    refine wpOp_step ho fun K' hK => ?_
    refine hstep i o it ho hit a w hb hs (fun j hj jt hjt => ?_) K' (fun v w' hbw hitw => hK _ _ ?_)
    · have hjn : j < ops.size := Nat.lt_trans (flow_deps hck ho j hj) hin
      exact (hinv j ops[j] jt (Array.getElem?_eq_getElem hjn) hjt (hdl j hj)).2
    · have hset : ∀ k, (listed.setIfInBounds i true).getD k false = true → k = i ∨ listed.getD k false = true := by
        intro k hk
        by_cases hki : k = i
        · exact .inl hki
        · right
          simpa [Array.getD_eq_getD_getElem?, Array.getElem?_setIfInBounds_ne (Ne.symm hki)] using hk
      have hkeep : ∀ k, listed.getD k false = true → (listed.setIfInBounds i true).getD k false = true := by
        intro k hk
        by_cases hki : k = i
        · subst hki
          simp [Array.getD_eq_getD_getElem?, show k < listed.size by omega]
        · simpa [Array.getD_eq_getD_getElem?, Array.getElem?_setIfInBounds_ne (Ne.symm hki)] using hk
      have hself : (listed.setIfInBounds i true).getD i false = true := by simp [Array.getD_eq_getD_getElem?, show i < listed.size by omega]
      refine ih _ _ _ (by simpa using hls) ?_ (hb.trans (hbw.mono hb.size)) (hs.put ho v) ?_
      · have hlt : (List.range ops.size).countP (fun k => !(listed.setIfInBounds i true).getD k true) < (List.range ops.size).countP (fun k => !listed.getD k true) := by
          refine countP_lt_of (x := i) _ ?_ hir (by simp [hunl]) (by simp [Array.getD_eq_getD_getElem?, show i < listed.size by omega])
          intro k hk hk'
          by_cases hki : k = i
          · subst hki; simp [hunl]
          · simpa [Array.getD_eq_getD_getElem?, Array.getElem?_setIfInBounds_ne (Ne.symm hki)] using hk'
        omega
      · intro k ok kt hok hkt hkl
        rcases hset k hkl with rfl | hkl'
        · rw [ho] at hok
          rw [hit] at hkt
          injection hok with hok
          injection hkt with hkt
          subst hok hkt
          exact ⟨fun j hj => hkeep j (hdl j hj), hitw⟩
        · obtain ⟨hkd, hkh⟩ := hinv k ok kt hok hkt hkl'
          refine ⟨fun j hj => hkeep j (hkd j hj), ?_⟩
          have hne : ∀ t ∈ kt.reads, o.dst ≠ some t := by
            intro t ht hdt
            have htr : t ∈ (((its.map FItem.reads)[k]?).getD []) := by simp [List.getElem?_map, hkt, ht]
            rcases flow_reads hck hok ho htr hdt with h | h
            · subst h
              have : listed.getD i true = true := by
                simp only [Array.getD_eq_getD_getElem?] at hkl' ⊢
                rw [Array.getElem?_eq_getElem (show i < listed.size by omega)] at hkl' ⊢
                simpa using hkl'
              rw [hunl] at this
              cases this
            · have := hkd i h
              have h2 : listed.getD i true = true := by
                simp only [Array.getD_eq_getD_getElem?] at this ⊢
                rw [Array.getElem?_eq_getElem (show i < listed.size by omega)] at this ⊢
                simpa using this
              rw [hunl] at h2
              cases h2
          have hmap : (kt.reads.map fun t => (a.put o.dst v).tmps.getD t undef) = kt.reads.map fun t => a.tmps.getD t undef :=
            List.map_congr_left fun t ht => put_getD _ _ _ _ (hne t ht)
          unfold FItem.holds at hkh ⊢
          rw [hmap]
          exact kt.keeps _ _ _ hbw hkh

/-- THE LAW. -/
theorem wp_flow {id : Nat} (its : List FItem) {a0 : Act} {W : World} (hm : P.follows .mixedOrders = true) (hck : flowOk ops (its.map FItem.reads) = true)
    (hstep : ∀ (i : Nat) (o : Oper) (it : FItem), ops[i]? = some o → its[i]? = some it → ∀ a w, Below W.heap.size W w → Same ops a0 a → (∀ j ∈ deps o, ∀ (jt : FItem), its[j]? = some jt → jt.holds a w) →
      ∀ K : Act → World → Prop, (∀ v w', Below w.heap.size w w' → it.holds (a.put o.dst v) w' → K (a.put o.dst v) w') → if Region.wanted o (yielded ops a.tmps) = true then o.wp P a w K Q else K (a.put o.dst undef) w)
    (hend : ∀ a w, Below W.heap.size W w → Same ops a0 a → (∀ (i : Nat) (it : FItem), its[i]? = some it → it.holds a w) → Q .normal a w) : (Code.region id ops true).wp P Q a0 W :=
  wp_region_any hm (wpAny_flow its a0 W hck hstep hend ops.size (Array.replicate ops.size false) a0 _ (by simp) (by
      refine Nat.le_trans (List.countP_le_length) (by simp)) (Below.refl _ _).drew ⟨rfl, rfl, fun _ _ => rfl⟩ (fun i o it ho hit hl => by
      have hi : i < ops.size := (Array.getElem?_eq_some_iff.1 ho).1
      simp [Array.getD_eq_getD_getElem?, hi] at hl))

/-! ### The law as it is used -/
/-- How many slots the frame has (behind a name, so that no 'simp' uses it). -/
structure SzIs (a : Act) (sz : Nat) : Prop where
  out : a.tmps.size = sz
def LiveAll : List (Nat × Value) → Act → Prop
  | [], _ => True
  | p :: ps, a => a.tmps.getD p.1 undef = p.2 ∧ LiveAll ps a
def HoldAll (a : Act) (w : World) : List FItem → Prop
  | [] => True
  | it :: its => it.holds a w ∧ HoldAll a w its
def DepsHold (its : List FItem) (a : Act) (w : World) : List Nat → Prop
  | [] => True
  | j :: js => (match its[j]? with | some jt => jt.holds a w | none => True) ∧ DepsHold its a w js
/-- One operation, alone. -/
def StepOk (P : Program) (ops : Array Oper) (Q : Exit → Act → World → Prop) (F : List (Nat × Value)) (sz : Nat) (W : World) (its : List FItem) (o : Oper) (it : FItem) : Prop :=
  ∀ a w, Below W.heap.size W w → SzIs a sz → LiveAll F a → DepsHold its a w (deps o) →
    ∀ K : Act → World → Prop, (∀ v w', Below w.heap.size w w' → it.holds (a.put o.dst v) w' → K (a.put o.dst v) w') → if Region.wanted o (yielded ops a.tmps) = true then o.wp P a w K Q else K (a.put o.dst undef) w
def StepsOk (P : Program) (ops : Array Oper) (Q : Exit → Act → World → Prop) (F : List (Nat × Value)) (sz : Nat) (W : World) (all : List FItem) : List Oper → List FItem → Prop
  | o :: os, it :: its => StepOk P ops Q F sz W all o it ∧ StepsOk P ops Q F sz W all os its
  | _, _ => True
theorem StepsOk.get {F : List (Nat × Value)} {sz : Nat} {W : World} {all : List FItem} : ∀ (os : List Oper) (its : List FItem), StepsOk P ops Q F sz W all os its → ∀ (i : Nat) (o : Oper) (it : FItem), os[i]? = some o → its[i]? = some it → StepOk P ops Q F sz W all o it
  | [], _, _, i, o, it, ho, _ => by simp at ho
  | _ :: _, [], _, i, o, it, _, hi => by simp at hi
  | o :: os, it :: its, h, 0, o', it', ho, hi => by
    simp at ho hi
    subst ho hi
    exact h.1
  | o :: os, it :: its, h, i + 1, o', it', ho, hi => StepsOk.get os its h.2 i o' it' (by simpa using ho) (by simpa using hi)
def liveOk (ops : Array Oper) (F : List Nat) : Bool := F.all fun t => ops.toList.all fun o => o.dst != some t
theorem live_of_same {a0 a : Act} (h : Same ops a0 a) : ∀ F : List (Nat × Value), liveOk ops (F.map (·.1)) = true → LiveAll F a0 → LiveAll F a
  | [], _, _ => trivial
  | p :: ps, hk, hl => by
    simp only [liveOk, List.map_cons, List.all_cons, Bool.and_eq_true] at hk
    exact ⟨(h.2.2 p.1 hk.1).trans hl.1, live_of_same h ps hk.2 hl.2⟩
theorem depsHold_of {its : List FItem} {a : Act} {w : World} : ∀ l : List Nat, (∀ j ∈ l, ∀ (jt : FItem), its[j]? = some jt → jt.holds a w) → DepsHold its a w l
  | [], _ => trivial
  | j :: js, h => ⟨by
      cases hj : its[j]? with
      | none => trivial
      | some jt => exact h j (List.mem_cons_self ..) jt hj, depsHold_of js fun k hk => h k (List.mem_cons_of_mem _ hk)⟩
theorem holdAll_of {a : Act} {w : World} : ∀ its : List FItem, (∀ (i : Nat) (it : FItem), its[i]? = some it → it.holds a w) → HoldAll a w its
  | [], _ => trivial
  | it :: its, h => ⟨h 0 it rfl, holdAll_of its fun i jt hj => h (i + 1) jt (by simpa using hj)⟩
theorem wp_flow_use {id : Nat} (F : List (Nat × Value)) (its : List FItem) {a0 : Act} {W : World} (sz : Nat) (hm : P.follows .mixedOrders = true) (hck : flowOk ops (its.map FItem.reads) = true)
    (hlk : liveOk ops (F.map (·.1)) = true) (hsz : a0.tmps.size = sz) (hl : LiveAll F a0) (hstep : StepsOk P ops Q F sz W its ops.toList its)
    (hend : ∀ a w, Below W.heap.size W w → SzIs a sz → a.defers = a0.defers → LiveAll F a → HoldAll a w its → Q .normal a w) : (Code.region id ops true).wp P Q a0 W :=
  wp_flow its hm hck
    (fun i o it ho hit a w hb hs hd K hK => StepsOk.get _ _ hstep i o it (by simpa using ho) hit a w hb ⟨hs.1.trans hsz⟩ (live_of_same hs F hlk hl) (depsHold_of _ hd) K hK)
    (fun a w hb hs hh => hend a w hb ⟨hs.1.trans hsz⟩ hs.2.1 (live_of_same hs F hlk hl) (holdAll_of its hh))

/-! ### One step's forms -/
theorem gd {l : Array Value} {t : Nat} {v : Value} (h : l.getD t undef = v) : l[t]?.getD undef = v := by rw [← Array.getD_eq_getD_getElem?]; exact h
theorem dep_get0 {its : List FItem} {a : Act} {w : World} : ∀ {l : List Nat}, DepsHold its a w l → ∀ j, l.contains j = true → (match its[j]? with | some jt => jt.holds a w | none => True)
  | [], _, j, hj => by simp at hj
  | k :: ks, h, j, hj => by
    by_cases e : j = k
    · subst e; exact h.1
    · exact dep_get0 h.2 j (by simpa [e] using hj)
theorem dep_get {its : List FItem} {a : Act} {w : World} {l : List Nat} (h : DepsHold its a w l) (j : Nat) (hj : l.contains j = true) {t : Nat} {v : Value} (hi : its[j]? = some (FItem.eq t v)) : a.tmps.getD t undef = v := by
  have := dep_get0 h j hj
  rw [hi] at this
  exact FItem.eq_holds.1 this
theorem step_plain {o : Oper} {a : Act} {w : World} {K : Act → World → Prop} (hg : o.guard = none) (h : o.wp P a w K Q) :
    if Region.wanted o (yielded ops a.tmps) = true then o.wp P a w K Q else K (a.put o.dst undef) w := by
  rw [if_pos (by simp [Region.wanted, hg])]
  exact h
theorem yielded_of {a : Act} {j d : Nat} {b : Bool} {oj : Oper} (hj : ops[j]? = some oj) (hd : oj.dst = some d) (hv : a.tmps.getD d undef = .bool b) : yielded ops a.tmps j = some b := by
  unfold yielded
  rw [hj]
  simp only [Option.bind_some, hd]
  rw [Array.getD_eq_getD_getElem?] at hv
  cases h : a.tmps[d]? with
  | none => rw [h] at hv; simp [undef] at hv
  | some v =>
    rw [h] at hv
    simp only [Option.getD_some] at hv
    subst hv
    rfl
theorem step_yes {o : Oper} {a : Act} {w : World} {K : Act → World → Prop} {j d : Nat} {b : Bool} {oj : Oper} (hg : o.guard = some (j, b)) (hj : ops[j]? = some oj) (hd : oj.dst = some d) (hv : a.tmps.getD d undef = .bool b) (h : o.wp P a w K Q) :
    if Region.wanted o (yielded ops a.tmps) = true then o.wp P a w K Q else K (a.put o.dst undef) w := by
  rw [if_pos (by simp [Region.wanted, hg, yielded_of hj hd hv])]
  exact h
theorem step_no {o : Oper} {a : Act} {w : World} {K : Act → World → Prop} {j d : Nat} {b c : Bool} {oj : Oper} (hg : o.guard = some (j, b)) (hj : ops[j]? = some oj) (hd : oj.dst = some d) (hv : a.tmps.getD d undef = .bool c) (hbc : c ≠ b) (h : K (a.put o.dst undef) w) :
    if Region.wanted o (yielded ops a.tmps) = true then o.wp P a w K Q else K (a.put o.dst undef) w := by
  rw [if_neg (by simp [Region.wanted, hg, yielded_of hj hd hv, hbc])]
  exact h
theorem hold_get {a : Act} {w : World} : ∀ {its : List FItem}, HoldAll a w its → ∀ j : Nat, (match its[j]? with | some jt => FItem.holds jt a w | none => True)
  | [], _, j => by simp
  | it :: its, h, 0 => h.1
  | it :: its, h, j + 1 => by simpa using hold_get h.2 j
theorem hold_eq {its : List FItem} {a : Act} {w : World} (h : HoldAll a w its) (j : Nat) {t : Nat} {v : Value} (hi : its[j]? = some (FItem.eq t v)) : a.tmps.getD t undef = v := by
  have := hold_get h j
  rw [hi] at this
  exact FItem.eq_holds.1 this
/-- The end of a step that writes slot d. -/
theorem eq_put {a : Act} {d : Nat} {v : Value} {w : World} {sz : Nat} (hs : SzIs a sz) (hd : d < sz) : (FItem.eq d v).holds (a.put (some d) v) w := FItem.eq_holds.2 (put_self a d v (by rw [hs.out]; exact hd))
end
end Go.Proofs.Ytjbigacgcapfdaa
