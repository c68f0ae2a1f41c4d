/- A law for a region whose writing operations follow one another (a chain), whatever else may float: what holds of the world is said by how many of the chain have come up. As XFlowc: a chain of writers; an operation that a later one of the chain waits for is told that this one has not come up. The wire: numbers in sevens of bits, fields; of the reference. The wire of the package: numbers, fields, put behind bytes of the call's own. The package's messages: times, versions, names of blocks; the fields of a header. The reference's messages: times, names of blocks. -/
import Derived.Test.YtcmllcmcbamlbaaDoorM1
import Derived.Deep.DeepCutAuto
set_option linter.unusedVariables false
set_option linter.unusedSimpArgs false
namespace Go.Proofs.YtcmllcmcbamlbaaDoor
open Go.RowKit

/-- A slot's value; or nothing. -/
def SHolds : Option (Nat × Value) → Act → Prop
 | some (t, v), a => a.tmps.getD t undef = v
 | none, _ => True
def sReads : Option (Nat × Value) → List Nat
 | some (t, _) => [t]
 | none => []
def rankOf (th : List Nat) (i : Nat) : Option Nat := th.findIdx? (· == i)
def chainOk (ops : Array Oper) (th : List Nat) : Bool :=
 (List.range th.length).all fun k => match th[k]? with
  | none => false
  | some i => decide (i < ops.size) && (rankOf th i == some k) && match k with
   | 0 => true
   | k + 1 => match th[k]?, ops[i]? with
    | some j, some o => (deps o).contains j
    | _, _ => false
def after (r : Option Nat) (c : Nat) : Nat := match r with | some _ => c + 1 | none => c
def SDeps (its : List (Option (Nat × Value))) (a : Act) : List Nat → Prop
 | [] => True
 | j :: js => (match its[j]? with | some s => SHolds s a | none => True) ∧ SDeps its a js
def SAll (a : Act) : List (Option (Nat × Value)) → Prop
 | [] => True
 | s :: ss => SHolds s a ∧ SAll a ss

section
variable {P : Program} {ops : Array Oper} {Q : Exit → Act → World → Prop}
theorem wpAny_flow3 (its : List (Option (Nat × Value))) (th : List Nat) (Th : Nat → World → Prop) (a0 : Act) (hck : flowOk ops (its.map sReads) = true) (hch : chainOk ops th = true)
  (hstep : ∀ (i : Nat) (o : Oper) (s : Option (Nat × Value)), ops[i]? = some o → its[i]? = some s → ∀ a w c, Th c w → (∀ k, rankOf th i = some k → c = k) → Same ops a0 a → (∀ j ∈ deps o, ∀ (t : Option (Nat × Value)), its[j]? = some t → SHolds t a) →
   ∀ K : Act → World → Prop, (∀ v w', SHolds s (a.put o.dst v) → Th (after (rankOf th i) c) w' → K (a.put o.dst v) w') → if Region.wanted o (yielded ops a.tmps) = true then o.wp P a w K Q else K (a.put o.dst undef) w)
  (hend : ∀ a w, Th th.length w → Same ops a0 a → (∀ (i : Nat) (s : Option (Nat × Value)), its[i]? = some s → SHolds s a) → Q .normal a w) :
  ∀ (fuel : Nat) (listed : Array Bool) (a : Act) (w : World) (c : Nat), listed.size = ops.size → (List.range ops.size).countP (fun i => !listed.getD i true) ≤ fuel → Th c w → c ≤ th.length → (∀ k i, th[k]? = some i → (listed.getD i false = true ↔ k < c)) → Same ops a0 a →
   (∀ (i : Nat) (o : Oper) (s : Option (Nat × Value)), ops[i]? = some o → its[i]? = some s → listed.getD i false = true → (∀ j ∈ deps o, listed.getD j false = true) ∧ SHolds s a) → wpAny P .any ops Q fuel listed a w := by
 have hlen : its.length = ops.size := by
  simp only [flowOk, Bool.and_eq_true, beq_iff_eq, List.length_map] at hck
  exact hck.1
 have hchain : ∀ k i, th[k]? = some i → i < ops.size ∧ rankOf th i = some k ∧ ∀ j o, 0 < k → th[k - 1]? = some j → ops[i]? = some o → j ∈ deps o := by
  intro k i hk
  have hkl : k < th.length := (List.getElem?_eq_some_iff.1 hk).1
  have h := List.all_eq_true.1 hch k (List.mem_range.2 hkl)
  rw [hk] at h
  simp only [Bool.and_eq_true, decide_eq_true_eq, beq_iff_eq] at h
  refine ⟨h.1.1, h.1.2, fun j o h0 hj ho => ?_⟩
  obtain ⟨k, rfl⟩ : ∃ m, k = m + 1 := ⟨k - 1, by omega⟩
  have h2 := h.2
  simp only [Nat.add_sub_cancel] at hj
  simp only [hj, ho] at h2
  simpa using h2
 have hall : ∀ (listed : Array Bool) (a : Act) (w : World) (c : Nat), listed.size = ops.size → Region.ready .any ops listed = [] → Th c w → c ≤ th.length → (∀ k i, th[k]? = some i → (listed.getD i false = true ↔ k < c)) → Same ops a0 a →
   (∀ (i : Nat) (o : Oper) (s : Option (Nat × Value)), ops[i]? = some o → its[i]? = some s → listed.getD i false = true → (∀ j ∈ deps o, listed.getD j false = true) ∧ SHolds s a) → Q .normal a w := by
  intro listed a w c hls hr hT hc hcl hs hinv
  have hdone : ∀ i, i < ops.size → listed.getD i false = true := by
   intro i
   induction i using Nat.strongRecOn with
   | _ i ih =>
    intro hi
    by_cases hli : listed.getD i false = true
    ·exact hli
    ·exfalso
     obtain ⟨o, ho⟩ : ∃ o, ops[i]? = some o := ⟨ops[i], Array.getElem?_eq_getElem hi⟩
     have hd := flow_deps hck ho
     have hmem : i ∈ Region.ready .any ops listed := by
      unfold Region.ready
      rw [List.mem_filter]
      refine ⟨List.mem_range.2 hi, ?_⟩
      have h1 : listed.getD i true = false := by
       have hi' : i < listed.size := by omega
       simp [Array.getD_eq_getD_getElem?, hi'] at hli ⊢
       exact hli
      rw [h1, ho]
      simp only [Bool.not_false, Bool.true_and, Option.map_some, Option.getD_some, Array.all_eq_true']
      intro e he
      by_cases hbd : Region.binds .any e = true
      ·have hlt := hd _ (dep_mem he hbd)
       simp [hbd, ih e.on hlt (by omega)]
      ·simp at hbd
       simp [hbd]
     rw [hr] at hmem
     cases hmem
  have hcE : c = th.length := by
   rcases Nat.lt_or_ge c th.length with h | h
   ·have h1 : th[c]? = some th[c] := List.getElem?_eq_getElem h
    have h2 := (hcl c _ h1).1 (hdone _ (hchain c _ h1).1)
    omega
   ·omega
  subst hcE
  refine hend a w hT hs fun i s hit => ?_
  have hi : i < ops.size := by
   have := (List.getElem?_eq_some_iff.1 hit).1
   omega
  exact (hinv i ops[i] s (Array.getElem?_eq_getElem hi) hit (hdone i hi)).2
 intro fuel
 induction fuel with
 | zero =>
  intro listed a w c hls hcn hT hc hcl hs hinv
  have hr : Region.ready .any ops listed = [] := by
   unfold Region.ready
   rw [List.filter_eq_nil_iff]
   intro i hi
   have h0 : (List.range ops.size).countP (fun i => !listed.getD i true) = 0 := by omega
   have := List.countP_eq_zero.1 h0 i hi
   simp at this
   simp [this]
  exact ⟨hr, hall listed a w c hls hr hT hc hcl hs hinv⟩
 | succ fuel ih =>
  intro listed a w c hls hcn hT hc hcl hs hinv
  refine ⟨fun hr => hall listed a w c hls hr hT hc hcl hs hinv, fun i hi => ?_⟩
  unfold Region.ready at hi
  rw [List.mem_filter] at hi
  obtain ⟨hir, hi2⟩ := hi
  have hin : i < ops.size := List.mem_range.1 hir
  obtain ⟨o, ho⟩ : ∃ o, ops[i]? = some o := ⟨ops[i], Array.getElem?_eq_getElem hin⟩
  obtain ⟨s, hit⟩ : ∃ s, its[i]? = some s := ⟨its[i]'(by omega), List.getElem?_eq_getElem (by omega)⟩
  rw [ho] at hi2
  simp only [Bool.and_eq_true, Option.map_some, Option.getD_some, Array.all_eq_true'] at hi2
  obtain ⟨hun, hed⟩ := hi2
  have hunl : listed.getD i true = false := by simpa using hun
  have hunf : listed.getD i false = false := getD_both hunl
  have hdl : ∀ j ∈ deps o, listed.getD j false = true := by
   intro j hj
   obtain ⟨e, he, hb', rfl⟩ := dep_edge hj
   have := hed e he
   simpa [hb'] using this
  have hrank : ∀ k, rankOf th i = some k → c = k ∧ th[k]? = some i := by
   intro k hk
   unfold rankOf at hk
   rw [List.findIdx?_eq_some_iff_getElem] at hk
   obtain ⟨hkl, hke, _⟩ := hk
   have hk' : th[k]? = some i := by
    rw [List.getElem?_eq_getElem hkl]
    congr 1
    simpa using hke
   have h1 : ¬ k < c := fun h => by
    have := (hcl k i hk').2 h
    rw [hunf] at this
    cases this
   refine ⟨?_, hk'⟩
   rcases Nat.eq_zero_or_pos k with h0 | h0
   ·omega
   ·have hj : th[k - 1]? = some th[k - 1] := List.getElem?_eq_getElem (by omega)
    have hd := (hchain k i hk').2.2 _ o h0 hj ho
    have := (hcl (k - 1) _ hj).1 (hdl _ hd)
    omega
  refine wpOp_step ho fun K' hK => ?_
  refine hstep i o s ho hit a w c hT (fun k hk => (hrank k hk).1) hs (fun j hj t hjt => ?_) K' (fun v w' hitw hT' => hK _ _ ?_)
  ·have hjn : j < ops.size := Nat.lt_trans (flow_deps hck ho j hj) hin
   exact (hinv j ops[j] t (Array.getElem?_eq_getElem hjn) hjt (hdl j hj)).2
  ·have hset : ∀ k, (listed.setIfInBounds i true).getD k false = true → k = i ∨ listed.getD k false = true := by
    intro k hk
    by_cases hki : k = i
    ·exact .inl hki
    ·right
     simpa [Array.getD_eq_getD_getElem?, Array.getElem?_setIfInBounds_ne (Ne.symm hki)] using hk
   have hkeep : ∀ k, listed.getD k false = true → (listed.setIfInBounds i true).getD k false = true := by
    intro k hk
    by_cases hki : k = i
    ·subst hki
     simp [Array.getD_eq_getD_getElem?, show k < listed.size by omega]
    ·simpa [Array.getD_eq_getD_getElem?, Array.getElem?_setIfInBounds_ne (Ne.symm hki)] using hk
   have hself : (listed.setIfInBounds i true).getD i false = true := by simp [Array.getD_eq_getD_getElem?, show i < listed.size by omega]
   refine ih _ _ _ (after (rankOf th i) c) (by simpa using hls) ?_ hT' ?_ ?_ (hs.put ho v) ?_
   ·have hlt : (List.range ops.size).countP (fun k => !(listed.setIfInBounds i true).getD k true) < (List.range ops.size).countP (fun k => !listed.getD k true) := by
     refine countP_lt_of (x := i) _ ?_ hir (by simp [hunl]) (by simp [Array.getD_eq_getD_getElem?, show i < listed.size by omega])
     intro k hk hk'
     by_cases hki : k = i
     ·subst hki; simp [hunl]
     ·simpa [Array.getD_eq_getD_getElem?, Array.getElem?_setIfInBounds_ne (Ne.symm hki)] using hk'
    omega
   ·cases hr : rankOf th i with
    | none => exact hc
    | some k =>
     obtain ⟨rfl, hk⟩ := hrank k hr
     have := (List.getElem?_eq_some_iff.1 hk).1
     show c + 1 ≤ _
     omega
   ·intro k j hkj
    cases hr : rankOf th i with
    | none =>
     have hji : j ≠ i := by
      rintro rfl
      rw [(hchain k j hkj).2.1] at hr
      cases hr
     show _ ↔ k < c
     rw [← hcl k j hkj]
     simp [Array.getD_eq_getD_getElem?, Array.getElem?_setIfInBounds_ne (Ne.symm hji)]
    | some k' =>
     obtain ⟨rfl, hk'⟩ := hrank k' hr
     show _ ↔ k < c + 1
     by_cases hji : j = i
     ·subst hji
      have : some k = some c := (hchain k j hkj).2.1.symm.trans hr
      injection this with this
      subst this
      simp [hself]
     ·have hkc : k ≠ c := by
       rintro rfl
       rw [hkj] at hk'
       injection hk' with hk'
       exact hji hk'
      have := hcl k j hkj
      have e : (listed.setIfInBounds i true).getD j false = listed.getD j false := by simp [Array.getD_eq_getD_getElem?, Array.getElem?_setIfInBounds_ne (Ne.symm hji)]
      rw [e, this]
      omega
   ·intro k ok kt hok hkt hkl
    rcases hset k hkl with rfl | hkl'
    ·rw [ho] at hok
     rw [hit] at hkt
     injection hok with hok
     injection hkt with hkt
     subst hok hkt
     exact ⟨fun j hj => hkeep j (hdl j hj), hitw⟩
    ·obtain ⟨hkd, hkh⟩ := hinv k ok kt hok hkt hkl'
     refine ⟨fun j hj => hkeep j (hkd j hj), ?_⟩
     cases kt with
     | none => trivial
     | some p =>
      obtain ⟨t, u⟩ := p
      have hne : o.dst ≠ some t := by
       intro hdt
       have htr : t ∈ (((its.map sReads)[k]?).getD []) := by simp [List.getElem?_map, hkt, sReads]
       rcases flow_reads hck hok ho htr hdt with h | h
       ·subst h
        rw [hunf] at hkl'
        cases hkl'
       ·have := hkd i h
        rw [hunf] at this
        cases this
      show _ = u
      rw [put_getD _ _ _ _ hne]
      exact hkh

def StepOk3 (P : Program) (ops : Array Oper) (Q : Exit → Act → World → Prop) (F : List (Nat × Value)) (sz : Nat) (Th : Nat → World → Prop) (its : List (Option (Nat × Value))) (r : Option Nat) (o : Oper) (s : Option (Nat × Value)) : Prop :=
 ∀ a w c, Th c w → (∀ k, r = some k → c = k) → SzIs a sz → LiveAll F a → SDeps its a (deps o) →
  ∀ K : Act → World → Prop, (∀ v w', SHolds s (a.put o.dst v) → Th (after r c) w' → K (a.put o.dst v) w') → if Region.wanted o (yielded ops a.tmps) = true then o.wp P a w K Q else K (a.put o.dst undef) w
def StepsOk3 (P : Program) (ops : Array Oper) (Q : Exit → Act → World → Prop) (F : List (Nat × Value)) (sz : Nat) (Th : Nat → World → Prop) (all : List (Option (Nat × Value))) : List (Option Nat) → List Oper → List (Option (Nat × Value)) → Prop
 | r :: rs, o :: os, s :: ss => StepOk3 P ops Q F sz Th all r o s ∧ StepsOk3 P ops Q F sz Th all rs os ss
 | _, _, _ => True
theorem StepsOk3.get {F : List (Nat × Value)} {sz : Nat} {Th : Nat → World → Prop} {all : List (Option (Nat × Value))} : ∀ (rs : List (Option Nat)) (os : List Oper) (ss : List (Option (Nat × Value))), StepsOk3 P ops Q F sz Th all rs os ss → ∀ (i : Nat) (r : Option Nat) (o : Oper) (s : Option (Nat × Value)), rs[i]? = some r → os[i]? = some o → ss[i]? = some s → StepOk3 P ops Q F sz Th all r o s
 | [], _, _, _, i, r, o, s, hr, _, _ => by simp at hr
 | _ :: _, [], _, _, i, r, o, s, _, ho, _ => by simp at ho
 | _ :: _, _ :: _, [], _, i, r, o, s, _, _, hs => by simp at hs
 | r :: rs, o :: os, s :: ss, h, 0, r', o', s', hr, ho, hs => by
  simp at hr ho hs
  subst hr ho hs
  exact h.1
 | r :: rs, o :: os, s :: ss, h, i + 1, r', o', s', hr, ho, hs => StepsOk3.get rs os ss h.2 i r' o' s' (by simpa using hr) (by simpa using ho) (by simpa using hs)
theorem sdeps_of {its : List (Option (Nat × Value))} {a : Act} : ∀ l : List Nat, (∀ j ∈ l, ∀ (t : Option (Nat × Value)), its[j]? = some t → SHolds t a) → SDeps its a l
 | [], _ => trivial
 | j :: js, h => ⟨by
   cases hj : its[j]? with
   | none => trivial
   | some t => exact h j (List.mem_cons_self ..) t hj, sdeps_of js fun k hk => h k (List.mem_cons_of_mem _ hk)⟩
theorem sall_of {a : Act} : ∀ its : List (Option (Nat × Value)), (∀ (i : Nat) (s : Option (Nat × Value)), its[i]? = some s → SHolds s a) → SAll a its
 | [], _ => trivial
 | s :: its, h => ⟨h 0 s rfl, sall_of its fun i t hj => h (i + 1) t (by simpa using hj)⟩
/-- A region with a chain of writers. -/
theorem wp_flow3_use {id : Nat} (F : List (Nat × Value)) (its : List (Option (Nat × Value))) (th : List Nat) (rs : List (Option Nat)) (Th : Nat → World → Prop) {a0 : Act} {W : World} (sz : Nat) (hm : P.follows .mixedOrders = true) (hck : flowOk ops (its.map sReads) = true) (hch : chainOk ops th = true) (hrs : (List.range ops.size).map (rankOf th) = rs)
  (hlk : liveOk ops (F.map (·.1)) = true) (hsz : SzIs a0 sz) (hdf : DfNil a0) (hl : LiveAll F a0) (h0 : Th 0 W.drew) (hstep : StepsOk3 P ops Q F sz Th its rs ops.toList its)
  (hend : ∀ a w, Th th.length w → SzIs a sz → DfNil a → LiveAll F a → SAll a its → Q .normal a w) : (Code.region id ops true).wp P Q a0 W :=
 wp_region_any hm (wpAny_flow3 its th Th a0 hck hch
  (fun i o s ho hit a w c hT hr hs hd K hK => StepsOk3.get rs _ _ hstep i (rankOf th i) o s (by
    have hi : i < ops.size := (Array.getElem?_eq_some_iff.1 ho).1
    rw [← hrs]
    simp [hi]) (by simpa using ho) hit a w c hT hr ⟨hs.1.trans hsz.out⟩ (live_of_same hs F hlk hl) (sdeps_of _ hd) K hK)
  (fun a w hT hs hh => hend a w hT ⟨hs.1.trans hsz.out⟩ ⟨hs.2.1.trans hdf.out⟩ (live_of_same hs F hlk hl) (sall_of its hh))
  ops.size (Array.replicate ops.size false) a0 _ 0 (by simp) (Nat.le_trans (List.countP_le_length) (by simp)) h0 (Nat.zero_le _)
  (fun k i _ => ⟨fun h => absurd h (by rw [getD_replicate_false]; decide), fun h => absurd h (Nat.not_lt_zero _)⟩) ⟨rfl, rfl, fun _ _ => rfl⟩ (fun i o s ho hit hl => by
   have hi : i < ops.size := (Array.getElem?_eq_some_iff.1 ho).1
   simp [Array.getD_eq_getD_getElem?, hi] at hl))
theorem sdep_get0 {its : List (Option (Nat × Value))} {a : Act} : ∀ {l : List Nat}, SDeps its a l → ∀ j, l.contains j = true → (match its[j]? with | some t => SHolds t a | none => True)
 | [], _, j, hj => by simp at hj
 | k :: ks, h, j, hj => by
  by_cases e : j = k
  ·subst e; exact h.1
  ·exact sdep_get0 h.2 j (by simpa [e] using hj)
theorem sdep_get {its : List (Option (Nat × Value))} {a : Act} {l : List Nat} (h : SDeps its a l) (j : Nat) (hj : l.contains j = true) {t : Nat} {v : Value} (hi : its[j]? = some (some (t, v))) : a.tmps.getD t undef = v := by
 have := sdep_get0 h j hj
 rw [hi] at this
 exact this
theorem sall_get {a : Act} : ∀ {its : List (Option (Nat × Value))}, SAll a its → ∀ j : Nat, (match its[j]? with | some t => SHolds t a | none => True)
 | [], _, j => by simp
 | s :: its, h, 0 => h.1
 | s :: its, h, j + 1 => by simpa using sall_get h.2 j
theorem sall_eq {its : List (Option (Nat × Value))} {a : Act} (h : SAll a its) (j : Nat) {t : Nat} {v : Value} (hi : its[j]? = some (some (t, v))) : a.tmps.getD t undef = v := by
 have := sall_get h j
 rw [hi] at this
 exact this
theorem s_put {a : Act} {d : Nat} {v : Value} {sz : Nat} (hs : SzIs a sz) (hd : d < sz) : SHolds (some (d, v)) (a.put (some d) v) := put_eq hs hd
end
end Go.Proofs.YtcmllcmcbamlbaaDoor
namespace Go.Proofs.YtcmllcmcbamlbaaDoor
open Go.RowKit
def boundOf (ops : Array Oper) (th : List Nat) (i : Nat) : Option Nat :=
 (List.range th.length).find? fun k => match (th[k]?).bind (ops[·]?) with
  | some o => (deps o).contains i
  | none => false
section
variable {P : Program} {ops : Array Oper} {Q : Exit → Act → World → Prop}
theorem wpAny_flow4 (its : List (Option (Nat × Value))) (th : List Nat) (Th : Nat → World → Prop) (a0 : Act) (hck : flowOk ops (its.map sReads) = true) (hch : chainOk ops th = true)
  (hstep : ∀ (i : Nat) (o : Oper) (s : Option (Nat × Value)), ops[i]? = some o → its[i]? = some s → ∀ a w c, Th c w → (∀ k, rankOf th i = some k → c = k) → (∀ k, boundOf ops th i = some k → c ≤ k) → Same ops a0 a → (∀ j ∈ deps o, ∀ (t : Option (Nat × Value)), its[j]? = some t → SHolds t a) →
   ∀ K : Act → World → Prop, (∀ v w', SHolds s (a.put o.dst v) → Th (after (rankOf th i) c) w' → K (a.put o.dst v) w') → if Region.wanted o (yielded ops a.tmps) = true then o.wp P a w K Q else K (a.put o.dst undef) w)
  (hend : ∀ a w, Th th.length w → Same ops a0 a → (∀ (i : Nat) (s : Option (Nat × Value)), its[i]? = some s → SHolds s a) → Q .normal a w) :
  ∀ (fuel : Nat) (listed : Array Bool) (a : Act) (w : World) (c : Nat), listed.size = ops.size → (List.range ops.size).countP (fun i => !listed.getD i true) ≤ fuel → Th c w → c ≤ th.length → (∀ k i, th[k]? = some i → (listed.getD i false = true ↔ k < c)) → Same ops a0 a →
   (∀ (i : Nat) (o : Oper) (s : Option (Nat × Value)), ops[i]? = some o → its[i]? = some s → listed.getD i false = true → (∀ j ∈ deps o, listed.getD j false = true) ∧ SHolds s a) → wpAny P .any ops Q fuel listed a w := by
 have hlen : its.length = ops.size := by
  simp only [flowOk, Bool.and_eq_true, beq_iff_eq, List.length_map] at hck
  exact hck.1
 have hchain : ∀ k i, th[k]? = some i → i < ops.size ∧ rankOf th i = some k ∧ ∀ j o, 0 < k → th[k - 1]? = some j → ops[i]? = some o → j ∈ deps o := by
  intro k i hk
  have hkl : k < th.length := (List.getElem?_eq_some_iff.1 hk).1
  have h := List.all_eq_true.1 hch k (List.mem_range.2 hkl)
  rw [hk] at h
  simp only [Bool.and_eq_true, decide_eq_true_eq, beq_iff_eq] at h
  refine ⟨h.1.1, h.1.2, fun j o h0 hj ho => ?_⟩
  obtain ⟨k, rfl⟩ : ∃ m, k = m + 1 := ⟨k - 1, by omega⟩
  have h2 := h.2
  simp only [Nat.add_sub_cancel] at hj
  simp only [hj, ho] at h2
  simpa using h2
 have hall : ∀ (listed : Array Bool) (a : Act) (w : World) (c : Nat), listed.size = ops.size → Region.ready .any ops listed = [] → Th c w → c ≤ th.length → (∀ k i, th[k]? = some i → (listed.getD i false = true ↔ k < c)) → Same ops a0 a →
   (∀ (i : Nat) (o : Oper) (s : Option (Nat × Value)), ops[i]? = some o → its[i]? = some s → listed.getD i false = true → (∀ j ∈ deps o, listed.getD j false = true) ∧ SHolds s a) → Q .normal a w := by
  intro listed a w c hls hr hT hc hcl hs hinv
  have hdone : ∀ i, i < ops.size → listed.getD i false = true := by
   intro i
   induction i using Nat.strongRecOn with
   | _ i ih =>
    intro hi
    by_cases hli : listed.getD i false = true
    ·exact hli
    ·exfalso
     obtain ⟨o, ho⟩ : ∃ o, ops[i]? = some o := ⟨ops[i], Array.getElem?_eq_getElem hi⟩
     have hd := flow_deps hck ho
     have hmem : i ∈ Region.ready .any ops listed := by
      unfold Region.ready
      rw [List.mem_filter]
      refine ⟨List.mem_range.2 hi, ?_⟩
      have h1 : listed.getD i true = false := by
       have hi' : i < listed.size := by omega
       simp [Array.getD_eq_getD_getElem?, hi'] at hli ⊢
       exact hli
      rw [h1, ho]
      simp only [Bool.not_false, Bool.true_and, Option.map_some, Option.getD_some, Array.all_eq_true']
      intro e he
      by_cases hbd : Region.binds .any e = true
      ·have hlt := hd _ (dep_mem he hbd)
       simp [hbd, ih e.on hlt (by omega)]
      ·simp at hbd
       simp [hbd]
     rw [hr] at hmem
     cases hmem
  have hcE : c = th.length := by
   rcases Nat.lt_or_ge c th.length with h | h
   ·have h1 : th[c]? = some th[c] := List.getElem?_eq_getElem h
    have h2 := (hcl c _ h1).1 (hdone _ (hchain c _ h1).1)
    omega
   ·omega
  subst hcE
  refine hend a w hT hs fun i s hit => ?_
  have hi : i < ops.size := by
   have := (List.getElem?_eq_some_iff.1 hit).1
   omega
  exact (hinv i ops[i] s (Array.getElem?_eq_getElem hi) hit (hdone i hi)).2
 intro fuel
 induction fuel with
 | zero =>
  intro listed a w c hls hcn hT hc hcl hs hinv
  have hr : Region.ready .any ops listed = [] := by
   unfold Region.ready
   rw [List.filter_eq_nil_iff]
   intro i hi
   have h0 : (List.range ops.size).countP (fun i => !listed.getD i true) = 0 := by omega
   have := List.countP_eq_zero.1 h0 i hi
   simp at this
   simp [this]
  exact ⟨hr, hall listed a w c hls hr hT hc hcl hs hinv⟩
 | succ fuel ih =>
  intro listed a w c hls hcn hT hc hcl hs hinv
  refine ⟨fun hr => hall listed a w c hls hr hT hc hcl hs hinv, fun i hi => ?_⟩
  unfold Region.ready at hi
  rw [List.mem_filter] at hi
  obtain ⟨hir, hi2⟩ := hi
  have hin : i < ops.size := List.mem_range.1 hir
  obtain ⟨o, ho⟩ : ∃ o, ops[i]? = some o := ⟨ops[i], Array.getElem?_eq_getElem hin⟩
  obtain ⟨s, hit⟩ : ∃ s, its[i]? = some s := ⟨its[i]'(by omega), List.getElem?_eq_getElem (by omega)⟩
  rw [ho] at hi2
  simp only [Bool.and_eq_true, Option.map_some, Option.getD_some, Array.all_eq_true'] at hi2
  obtain ⟨hun, hed⟩ := hi2
  have hunl : listed.getD i true = false := by simpa using hun
  have hunf : listed.getD i false = false := getD_both hunl
  have hdl : ∀ j ∈ deps o, listed.getD j false = true := by
   intro j hj
   obtain ⟨e, he, hb', rfl⟩ := dep_edge hj
   have := hed e he
   simpa [hb'] using this
  have hrank : ∀ k, rankOf th i = some k → c = k ∧ th[k]? = some i := by
   intro k hk
   unfold rankOf at hk
   rw [List.findIdx?_eq_some_iff_getElem] at hk
   obtain ⟨hkl, hke, _⟩ := hk
   have hk' : th[k]? = some i := by
    rw [List.getElem?_eq_getElem hkl]
    congr 1
    simpa using hke
   have h1 : ¬ k < c := fun h => by
    have := (hcl k i hk').2 h
    rw [hunf] at this
    cases this
   refine ⟨?_, hk'⟩
   rcases Nat.eq_zero_or_pos k with h0 | h0
   ·omega
   ·have hj : th[k - 1]? = some th[k - 1] := List.getElem?_eq_getElem (by omega)
    have hd := (hchain k i hk').2.2 _ o h0 hj ho
    have := (hcl (k - 1) _ hj).1 (hdl _ hd)
    omega
  have hbound : ∀ k, boundOf ops th i = some k → c ≤ k := by
   intro k hk
   unfold boundOf at hk
   have h1 := List.find?_some hk
   rcases hj : th[k]? with _ | j
   ·simp [hj] at h1
   ·rcases ho' : ops[j]? with _ | o'
    ·simp [hj, ho'] at h1
    ·simp only [hj, Option.bind_some, ho', List.contains_eq_mem, decide_eq_true_eq] at h1
     refine Nat.le_of_not_lt fun hlt => ?_
     have hl := (hcl k j hj).2 hlt
     have hjo : j < ops.size := (Array.getElem?_eq_some_iff.1 ho').1
     have := (hinv j o' _ ho' (List.getElem?_eq_getElem (by omega)) hl).1 i h1
     rw [hunf] at this
     cases this
  refine wpOp_step ho fun K' hK => ?_
  refine hstep i o s ho hit a w c hT (fun k hk => (hrank k hk).1) hbound hs (fun j hj t hjt => ?_) K' (fun v w' hitw hT' => hK _ _ ?_)
  ·have hjn : j < ops.size := Nat.lt_trans (flow_deps hck ho j hj) hin
   exact (hinv j ops[j] t (Array.getElem?_eq_getElem hjn) hjt (hdl j hj)).2
  ·have hset : ∀ k, (listed.setIfInBounds i true).getD k false = true → k = i ∨ listed.getD k false = true := by
    intro k hk
    by_cases hki : k = i
    ·exact .inl hki
    ·right
     simpa [Array.getD_eq_getD_getElem?, Array.getElem?_setIfInBounds_ne (Ne.symm hki)] using hk
   have hkeep : ∀ k, listed.getD k false = true → (listed.setIfInBounds i true).getD k false = true := by
    intro k hk
    by_cases hki : k = i
    ·subst hki
     simp [Array.getD_eq_getD_getElem?, show k < listed.size by omega]
    ·simpa [Array.getD_eq_getD_getElem?, Array.getElem?_setIfInBounds_ne (Ne.symm hki)] using hk
   have hself : (listed.setIfInBounds i true).getD i false = true := by simp [Array.getD_eq_getD_getElem?, show i < listed.size by omega]
   refine ih _ _ _ (after (rankOf th i) c) (by simpa using hls) ?_ hT' ?_ ?_ (hs.put ho v) ?_
   ·have hlt : (List.range ops.size).countP (fun k => !(listed.setIfInBounds i true).getD k true) < (List.range ops.size).countP (fun k => !listed.getD k true) := by
     refine countP_lt_of (x := i) _ ?_ hir (by simp [hunl]) (by simp [Array.getD_eq_getD_getElem?, show i < listed.size by omega])
     intro k hk hk'
     by_cases hki : k = i
     ·subst hki; simp [hunl]
     ·simpa [Array.getD_eq_getD_getElem?, Array.getElem?_setIfInBounds_ne (Ne.symm hki)] using hk'
    omega
   ·cases hr : rankOf th i with
    | none => exact hc
    | some k =>
     obtain ⟨rfl, hk⟩ := hrank k hr
     have := (List.getElem?_eq_some_iff.1 hk).1
     show c + 1 ≤ _
     omega
   ·intro k j hkj
    cases hr : rankOf th i with
    | none =>
     have hji : j ≠ i := by
      rintro rfl
      rw [(hchain k j hkj).2.1] at hr
      cases hr
     show _ ↔ k < c
     rw [← hcl k j hkj]
     simp [Array.getD_eq_getD_getElem?, Array.getElem?_setIfInBounds_ne (Ne.symm hji)]
    | some k' =>
     obtain ⟨rfl, hk'⟩ := hrank k' hr
     show _ ↔ k < c + 1
     by_cases hji : j = i
     ·subst hji
      have : some k = some c := (hchain k j hkj).2.1.symm.trans hr
      injection this with this
      subst this
      simp [hself]
     ·have hkc : k ≠ c := by
       rintro rfl
       rw [hkj] at hk'
       injection hk' with hk'
       exact hji hk'
      have := hcl k j hkj
      have e : (listed.setIfInBounds i true).getD j false = listed.getD j false := by simp [Array.getD_eq_getD_getElem?, Array.getElem?_setIfInBounds_ne (Ne.symm hji)]
      rw [e, this]
      omega
   ·intro k ok kt hok hkt hkl
    rcases hset k hkl with rfl | hkl'
    ·rw [ho] at hok
     rw [hit] at hkt
     injection hok with hok
     injection hkt with hkt
     subst hok hkt
     exact ⟨fun j hj => hkeep j (hdl j hj), hitw⟩
    ·obtain ⟨hkd, hkh⟩ := hinv k ok kt hok hkt hkl'
     refine ⟨fun j hj => hkeep j (hkd j hj), ?_⟩
     cases kt with
     | none => trivial
     | some p =>
      obtain ⟨t, u⟩ := p
      have hne : o.dst ≠ some t := by
       intro hdt
       have htr : t ∈ (((its.map sReads)[k]?).getD []) := by simp [List.getElem?_map, hkt, sReads]
       rcases flow_reads hck hok ho htr hdt with h | h
       ·subst h
        rw [hunf] at hkl'
        cases hkl'
       ·have := hkd i h
        rw [hunf] at this
        cases this
      show _ = u
      rw [put_getD _ _ _ _ hne]
      exact hkh

def StepOk4 (P : Program) (ops : Array Oper) (Q : Exit → Act → World → Prop) (F : List (Nat × Value)) (sz : Nat) (Th : Nat → World → Prop) (its : List (Option (Nat × Value))) (r : Option Nat × Option Nat) (o : Oper) (s : Option (Nat × Value)) : Prop :=
 ∀ a w c, Th c w → (∀ k, r.1 = some k → c = k) → (∀ k, r.2 = some k → c ≤ k) → SzIs a sz → LiveAll F a → SDeps its a (deps o) →
  ∀ K : Act → World → Prop, (∀ v w', SHolds s (a.put o.dst v) → Th (after r.1 c) w' → K (a.put o.dst v) w') → if Region.wanted o (yielded ops a.tmps) = true then o.wp P a w K Q else K (a.put o.dst undef) w
def StepsOk4 (P : Program) (ops : Array Oper) (Q : Exit → Act → World → Prop) (F : List (Nat × Value)) (sz : Nat) (Th : Nat → World → Prop) (all : List (Option (Nat × Value))) : List (Option Nat × Option Nat) → List Oper → List (Option (Nat × Value)) → Prop
 | r :: rs, o :: os, s :: ss => StepOk4 P ops Q F sz Th all r o s ∧ StepsOk4 P ops Q F sz Th all rs os ss
 | _, _, _ => True
theorem StepsOk4.get {F : List (Nat × Value)} {sz : Nat} {Th : Nat → World → Prop} {all : List (Option (Nat × Value))} : ∀ (rs : List (Option Nat × Option Nat)) (os : List Oper) (ss : List (Option (Nat × Value))), StepsOk4 P ops Q F sz Th all rs os ss → ∀ (i : Nat) (r : Option Nat × Option Nat) (o : Oper) (s : Option (Nat × Value)), rs[i]? = some r → os[i]? = some o → ss[i]? = some s → StepOk4 P ops Q F sz Th all r o s
 | [], _, _, _, i, r, o, s, hr, _, _ => by simp at hr
 | _ :: _, [], _, _, i, r, o, s, _, ho, _ => by simp at ho
 | _ :: _, _ :: _, [], _, i, r, o, s, _, _, hs => by simp at hs
 | r :: rs, o :: os, s :: ss, h, 0, r', o', s', hr, ho, hs => by
  simp at hr ho hs
  subst hr ho hs
  exact h.1
 | r :: rs, o :: os, s :: ss, h, i + 1, r', o', s', hr, ho, hs => StepsOk4.get rs os ss h.2 i r' o' s' (by simpa using hr) (by simpa using ho) (by simpa using hs)
/-- A region with a chain of writers. -/
theorem wp_flow4_use {id : Nat} (F : List (Nat × Value)) (its : List (Option (Nat × Value))) (th : List Nat) (rs : List (Option Nat × Option Nat)) (Th : Nat → World → Prop) {a0 : Act} {W : World} (sz : Nat) (hm : P.follows .mixedOrders = true) (hck : flowOk ops (its.map sReads) = true) (hch : chainOk ops th = true) (hrs : (List.range ops.size).map (fun i => (rankOf th i, boundOf ops th i)) = rs)
  (hlk : liveOk ops (F.map (·.1)) = true) (hsz : SzIs a0 sz) (hdf : DfNil a0) (hl : LiveAll F a0) (h0 : Th 0 W.drew) (hstep : StepsOk4 P ops Q F sz Th its rs ops.toList its)
  (hend : ∀ a w, Th th.length w → SzIs a sz → DfNil a → LiveAll F a → SAll a its → Q .normal a w) : (Code.region id ops true).wp P Q a0 W :=
 wp_region_any hm (wpAny_flow4 its th Th a0 hck hch
  (fun i o s ho hit a w c hT hr hbd hs hd K hK => StepsOk4.get rs _ _ hstep i (rankOf th i, boundOf ops th i) o s (by
    have hi : i < ops.size := (Array.getElem?_eq_some_iff.1 ho).1
    rw [← hrs]
    simp [hi]) (by simpa using ho) hit a w c hT hr hbd ⟨hs.1.trans hsz.out⟩ (live_of_same hs F hlk hl) (sdeps_of _ hd) K hK)
  (fun a w hT hs hh => hend a w hT ⟨hs.1.trans hsz.out⟩ ⟨hs.2.1.trans hdf.out⟩ (live_of_same hs F hlk hl) (sall_of its hh))
  ops.size (Array.replicate ops.size false) a0 _ 0 (by simp) (Nat.le_trans (List.countP_le_length) (by simp)) h0 (Nat.zero_le _)
  (fun k i _ => ⟨fun h => absurd h (by rw [getD_replicate_false]; decide), fun h => absurd h (Nat.not_lt_zero _)⟩) ⟨rfl, rfl, fun _ _ => rfl⟩ (fun i o s ho hit hl => by
   have hi : i < ops.size := (Array.getElem?_eq_some_iff.1 ho).1
   simp [Array.getD_eq_getD_getElem?, hi] at hl))
end
end Go.Proofs.YtcmllcmcbamlbaaDoor
namespace Go.Proofs.YtcmllcmcbamlbaaDoor
open Go.RowKit

/-- A number in sevens of bits. -/
def vi (n : Nat) : List Int := if n < 128 then [(n : Int)] else ((n % 128 + 128 : Nat) : Int) :: vi (n / 128)
termination_by n
theorem vi_lo (n : Nat) (h : n < 128) : vi n = [(n : Int)] := by rw [vi, if_pos h]
theorem vi_hi (n : Nat) (h : ¬ n < 128) : vi n = ((n % 128 + 128 : Nat) : Int) :: vi (n / 128) := by rw [vi, if_neg h]
theorem vi_len (k n : Nat) (h : n < 128 ^ k) : (vi n).length ≤ k + 1 := by
 induction k generalizing n with
 | zero => rw [vi_lo n (by omega)]; simp
 | succ k ih =>
  by_cases hn : n < 128
  ·rw [vi_lo n hn]; simp
  ·rw [vi_hi n hn, List.length_cons]
   have := ih (n / 128) (by rw [Nat.pow_succ] at h; omega)
   omega

theorem vi_len63 (n : Nat) (h : n ≤ 9223372036854775807) : (vi n).length ≤ 10 := vi_len 9 n (by omega)
theorem vi_pos (n : Nat) : 0 < (vi n).length := by
 by_cases h : n < 128
 ·rw [vi_lo n h]; simp
 ·rw [vi_hi n h]; simp
theorem vi_byte (m : Nat) (hm : m ≤ 9223372036854775807) : bits .or .u8 (bits .and .u64 (m : Int) 127 % 256) 128 = ((m % 128 + 128 : Nat) : Int) := by
 have e1 : bits .and .u64 (m : Int) 127 = ((m % 128 : Nat) : Int) := by
  have := u64_and_nat m 127 (by omega) (by omega)
  rw [nat_mask7] at this
  exact this
 have e2 : ((m % 128 : Nat) : Int) % 256 = ((m % 128 : Nat) : Int) := by omega
 rw [e1, e2]
 have := u8_or_nat (m % 128) 128 (by omega) (by omega)
 rw [Nat.or_comm, nat_join 7 128 (m % 128) (by decide) (by omega)] at this
 rw [show ((m % 128 + 128 : Nat) : Int) = ((128 + m % 128 : Nat) : Int) by omega]
 exact this

/-- A number in sevens of bits. -/
theorem c_countedN (n : Nat) (w : World) (hn : n ≤ 9223372036854775807) : Calls Tryd.prog 33 #[.int .i64 n] w (OutB w (vi n)) := by
 go_enter Tryd.func33, Tryd.ntmps33
 go_wp2
 go_loopw [3, 4] (fun v u wr => ∃ m : Nat, ∃ A c pre, Is (vi n) (pre ++ vi m) ∧ m ≤ n ∧ v = .slice A pre.length c ∧ u = .int .u64 m ∧ OwnB w.heap.size wr A c pre ∧ Below w.heap.size w wr)
  (fun _ u _ => (intOf u).toNat)
 case atStart => exact ⟨n, none, 0, [], rfl, Nat.le_refl _, rfl, rfl, OwnB.nil _ _, Below.refl _ _⟩
 case round =>
  obtain ⟨m, A, c, pre, hvi, hm, rfl, rfl, hown, hbr⟩ := hrel
  have hz := hbr.size
  have hpre : pre.length ≤ 10 := by
   have h1 := congrArg List.length hvi.out
   have h2 := vi_len63 n hn
   rw [List.length_append] at h1
   omega
  by_cases hlt : m < 128
  ·go_wp2_with (at_builtin; refine stop ?_)
   (refine on_ ?_; refine app_u8 rfl (.tmp 18) (.tmp 21) rfl rfl (l2 := [_]) (c2 := 1) rfl (hown.alloc _) (bs_one _ _ _) (by first | omega | (simp; omega)) (by first | omega | (simp; omega)) ?_)
   intro l1 A1 c1 w1 hl1 hn1 hown1 hb1 _ _
   go_wp2
   go_ret
   refine OutB.mk' ?_ hown1 ((hbr.alloc hz _).trans hb1)
   rw [hl1.out, hvi.out, vi_lo m hlt]
  ·go_wp2_with (at_builtin; refine stop ?_)
   (refine on_ ?_; refine app_u8 rfl (.tmp 9) (.tmp 14) rfl rfl (l2 := [_]) (c2 := 1) rfl (hown.alloc _) (bs_one _ _ _) (by first | omega | (simp; omega)) (by first | omega | (simp; omega)) ?_)
   intro l1 A1 c1 w1 hl1 hn1 hown1 hb1 _ _
   go_wp2
   go_roundw
   case rel =>
    refine ⟨m / 128, A1, c1, l1, ?_, by omega, rfl, by simp, hown1, (hbr.alloc hz _).trans hb1⟩
    unfold Is
    rw [hl1.out, hvi.out, vi_hi m hlt, vi_byte m (by omega), List.append_assoc]
    rfl
   case measure => simp [intOf]; omega

theorem c_counted (a : Int) (w : World) (h0 : 0 ≤ a) (h1 : a ≤ 9223372036854775807) : Calls Tryd.prog 33 #[.int .i64 a] w (OutB w (vi a.toNat)) := by
 obtain ⟨n, rfl⟩ := Int.eq_ofNat_of_zero_le h0
 exact c_countedN n w (by omega)

/-- A field with a number. -/
def numL (f n : Nat) : List Int := if n = 0 then [] else ((f * 8 : Nat) : Int) :: vi n
/-- A field with bytes. -/
def withinL (f : Nat) (b : List Int) : List Int := ((f * 8 + 2 : Nat) : Int) :: (vi b.length ++ b)
def someL (f : Nat) (b : List Int) : List Int := if b = [] then [] else withinL f b
theorem numL_len (f n : Nat) (h : n ≤ 9223372036854775807) : (numL f n).length ≤ 11 := by
 unfold numL
 have := vi_len63 n h
 split <;> simp <;> omega
theorem withinL_len (f : Nat) (b : List Int) (h : b.length ≤ 9223372036854775807) : (withinL f b).length ≤ b.length + 11 := by
 unfold withinL
 have := vi_len63 b.length h
 simp
 omega
theorem someL_len (f : Nat) (b : List Int) (h : b.length ≤ 9223372036854775807) : (someL f b).length ≤ b.length + 11 := by
 unfold someL
 have := withinL_len f b h
 split <;> simp <;> omega

theorem c_numberN (f n : Nat) (w : World) (hf : f ≤ 15) (hn : n ≤ 9223372036854775807) : Calls Tryd.prog 19 #[.int .i64 f, .int .i64 n] w (OutB w (numL f n)) := by
 by_cases h0 : n = 0
 ·subst h0
  go_enter Tryd.func19, Tryd.ntmps19
  go_wp2
  go_ret
  exact OutB.mk' rfl (OwnB.nil _ _) (Below.refl _ _)
 ·have h1 : ((n : Int) == 0) = false := by simpa using h0
  have hfin : Is (numL f n) (vi (f * 8) ++ vi n) := by unfold Is numL; rw [if_neg h0, vi_lo (f * 8) (by omega)]; rfl
  clear h0
  go_enter Tryd.func19, Tryd.ntmps19
  go_wp2_with (fail)
  refine (c_counted _ _ (by omega) (by omega)).mono ?_
  rintro e w1 ⟨l1, A1, c1, hl1, rfl, ho1, hb1⟩
  go_wp2_with (fail)
  refine (c_counted _ _ (by omega) (by omega)).mono ?_
  rintro e w2 ⟨l2, A2, c2, hl2, rfl, ho2, hb2⟩
  have hn1 := vi_len63 (((f : Int) * 8).toNat) (by omega)
  have hn2 := vi_len63 ((n : Int).toNat) (by omega)
  rw [← hl1.out] at hn1
  rw [← hl2.out] at hn2
  have hz1 := hb1.size
  have hz2 := hb2.size
  go_wp2_with (at_builtin; refine stop ?_)
  (refine on_ ?_; refine app_u8 rfl (.tmp 9) (.tmp 11) rfl rfl rfl (ho1.after hb2) ho2.bs (by first | omega | (simp; omega)) (by first | omega | (simp; omega)) ?_)
  intro l3 A3 c3 w3 hl3 hn3 ho3 hb3 _ _
  go_wp2
  go_ret
  exact OutB.mk' (by rw [hl3.out, hl1.out, hl2.out, hfin.out, Int.toNat_natCast, show ((f : Int) * 8).toNat = f * 8 by omega]) ho3 ((hb1.trans (hb2.mono hz1)).trans hb3)

theorem c_number (f a : Int) (w : World) (hf : 0 ≤ f ∧ f ≤ 15) (h0 : 0 ≤ a) (h1 : a ≤ 9223372036854775807) : Calls Tryd.prog 19 #[.int .i64 f, .int .i64 a] w (OutB w (numL f.toNat a.toNat)) := by
 obtain ⟨n, rfl⟩ := Int.eq_ofNat_of_zero_le h0
 obtain ⟨m, rfl⟩ := Int.eq_ofNat_of_zero_le hf.1
 exact c_numberN m n w (by omega) (by omega)

theorem or_two (f : Int) (hf : 0 ≤ f ∧ f ≤ 15) : bits .or .i64 (f * 8) 2 = f * 8 + 2 := by
 obtain ⟨n, rfl⟩ := Int.eq_ofNat_of_zero_le hf.1
 have hn : n ≤ 15 := by omega
 have : ∀ n : Fin 16, bits .or .i64 (((n.val : Nat) : Int) * 8) 2 = ((n.val : Nat) : Int) * 8 + 2 := by decide
 exact this ⟨n, by omega⟩
theorem Bs.len_ {w : World} {A : Option Addr} {l : List Int} (_h : Bs w A l) : True := trivial

theorem c_within (f : Int) (A : Option Addr) (c : Nat) (l : List Int) (w : World) (hf : 0 ≤ f ∧ f ≤ 15) (hb : Bs w A l) (hl : l.length ≤ 10000000000000) :
  Calls Tryd.prog 32 #[.int .i64 f, .slice A l.length c] w (OutB w (withinL f.toNat l)) := by
 have h2 := or_two f hf
 have hfin : Is (withinL f.toNat l) ((vi (f * 8 + 2).toNat ++ vi l.length) ++ l) := by unfold Is withinL; rw [vi_lo (f * 8 + 2).toNat (by omega), show (f * 8 + 2).toNat = f.toNat * 8 + 2 by omega]; simp
 go_enter Tryd.func32, Tryd.ntmps32
 go_wp2_with (fail)
 refine (c_counted _ _ (by omega) (by omega)).mono ?_
 rintro e w1 ⟨l1, A1, c1, hl1, rfl, ho1, hb1⟩
 go_wp2_with (fail)
 refine (c_counted _ _ (by omega) (by omega)).mono ?_
 rintro e w2 ⟨l2, A2, c2, hl2, rfl, ho2, hb2⟩
 have hn1 := vi_len63 (f * 8 + 2).toNat (by omega)
 have hn2 := vi_len63 ((l.length : Int).toNat) (by omega)
 rw [← hl1.out] at hn1
 rw [← hl2.out] at hn2
 have hz1 := hb1.size
 have hz2 := hb2.size
 have hB2 := hb1.trans (hb2.mono hz1)
 go_wp2_with (at_builtin; refine stop ?_)
 (refine on_ ?_; refine app_u8 rfl (.tmp 8) (.tmp 11) rfl rfl rfl (ho1.after hb2) ho2.bs (by first | omega | (simp; omega)) (by first | omega | (simp; omega)) ?_)
 intro l3 A3 c3 w3 hl3 hn3 ho3 hb3 _ _
 have hz3 := hb3.size
 have hB3 := hB2.trans hb3
 go_wp2_with (at_builtin; refine stop ?_)
 (refine on_ ?_; refine app_u8 rfl (.tmp 12) (.tmp 13) rfl rfl rfl ho3 (hb.below hB3) (by first | omega | (simp; omega)) (by first | omega | (simp; omega)) ?_)
 intro l4 A4 c4 w4 hl4 hn4 ho4 hb4 _ _
 go_wp2
 go_ret
 refine OutB.mk' ?_ ho4 (hB3.trans hb4)
 rw [hl4.out, hl3.out, hl1.out, hl2.out, hfin.out, Int.toNat_natCast]

theorem c_some (f : Int) (A : Option Addr) (c : Nat) (l : List Int) (w : World) (hf : 0 ≤ f ∧ f ≤ 15) (hb : Bs w A l) (hl : l.length ≤ 10000000000000) :
  Calls Tryd.prog 20 #[.int .i64 f, .slice A l.length c] w (OutB w (someL f.toNat l)) := by
 by_cases h0 : l = []
 ·subst h0
  go_enter Tryd.func20, Tryd.ntmps20
  go_wp2
  go_ret
  exact OutB.mk' rfl (OwnB.nil _ _) (Below.refl _ _)
 ·have h1 : ((l.length : Int) == 0) = false := by
   have : l.length ≠ 0 := fun e => h0 (List.eq_nil_of_length_eq_zero e)
   simp
   omega
  have hfin : Is (someL f.toNat l) (withinL f.toNat l) := by unfold Is someL; rw [if_neg h0]
  clear h0
  go_enter Tryd.func20, Tryd.ntmps20
  go_wp2_with (fail)
  refine (c_within _ _ _ _ _ hf hb hl).mono ?_
  rintro e w1 ⟨l1, A1, c1, hl1, rfl, ho1, hb1⟩
  go_wp2
  go_ret
  exact OutB.mk' (hl1.out.trans hfin.out.symm) ho1 hb1

/-- A slice of slices of bytes that reads as a list of lists. -/
def Bss (w : World) (A : Option Addr) (ls : List (List Int)) : Prop :=
 ∀ i, i < ls.length → ∃ b o Ai ci, A = some ⟨b, o, none⟩ ∧ b < w.heap.size ∧ w.cell? ⟨b, o + i, none⟩ = some (.slice Ai (ls.getD i []).length ci) ∧ Bs w Ai (ls.getD i []) ∧ (ls.getD i []).length ≤ ci
theorem Bss.nil (w : World) (A : Option Addr) : Bss w A [] := fun i hi => by simp at hi
theorem Bss.below {w w' : World} {A : Option Addr} {l : List (List Int)} (h : Bss w A l) (hb : Below w.heap.size w w') : Bss w' A l := fun i hi => by
 obtain ⟨b, o, Ai, ci, e, hlt, hc, hbs, hcap⟩ := h i hi
 exact ⟨b, o, Ai, ci, e, Nat.lt_of_lt_of_le hlt hb.size, (hb.cell (p := ⟨b, o + i, none⟩) hlt).trans hc, hbs.below hb, hcap⟩
theorem Bss.at_ {w : World} {A : Option Addr} {l : List (List Int)} (h : Bss w A l) {i : Nat} (hi : i < l.length) : ∃ b o Ai ci x, Is x (l.getD i []) ∧ A = some ⟨b, o, none⟩ ∧ b < w.heap.size ∧ w.cell? ⟨b, o + i, none⟩ = some (.slice Ai x.length ci) ∧ Bs w Ai x ∧ x.length ≤ ci := by
 obtain ⟨b, o, Ai, ci, h1, h2, h3, h4, h5⟩ := h i hi
 exact ⟨b, o, Ai, ci, _, rfl, h1, h2, h3, h4, h5⟩

def flat (ls : List (List Int)) : List Int := ls.flatten
theorem flat_take (ls : List (List Int)) (k : Nat) (h : k < ls.length) : flat (ls.take (k + 1)) = flat (ls.take k) ++ ls.getD k [] := by
 unfold flat
 rw [List.take_succ_eq_append_getElem h, List.flatten_append]
 simp [List.getD_eq_getElem?_getD, List.getElem?_eq_getElem h]
theorem flat_take_le (ls : List (List Int)) (k : Nat) : (flat (ls.take k)).length ≤ (flat ls).length := by
 unfold flat
 have : ls.flatten = (ls.take k).flatten ++ (ls.drop k).flatten := by rw [← List.flatten_append, List.take_append_drop]
 rw [this, List.length_append]
 omega

theorem c_joined (A : Option Addr) (c : Nat) (ls : List (List Int)) (w : World) (hb : Bss w A ls) (hn : ls.length ≤ 10000000000000) (hl : (flat ls).length ≤ 10000000000000) :
  Calls Tryd.prog 18 #[.slice A ls.length c] w (OutB w (flat ls)) := by
 go_enter Tryd.func18, Tryd.ntmps18
 go_wp2
 go_loopw [3, 8] (fun v u wr => ∃ k : Nat, ∃ A c pre, Is pre (flat (ls.take k)) ∧ k ≤ ls.length ∧ v = .slice A pre.length c ∧ u = .int .i64 k ∧ OwnB w.heap.size wr A c pre ∧ Below w.heap.size w wr)
  (fun _ u _ => ls.length - (intOf u).toNat)
 case atStart => exact ⟨0, none, 0, [], rfl, Nat.zero_le _, rfl, rfl, OwnB.nil _ _, Below.refl _ _⟩
 case round =>
  obtain ⟨k, A1, c1, pre, hpre, hk, rfl, rfl, hown, hbr⟩ := hrel
  have hz := hbr.size
  by_cases hlt : k < ls.length
  ·obtain ⟨b, o, Ai, ci, x, hx, rfl, hbs, hc, hbi, hci⟩ := (hb.below hbr).at_ hlt
   have hs1 := flat_take ls k hlt
   have hs2 := flat_take_le ls (k + 1)
   rw [← hx.out] at hs1
   rw [hs1, ← hpre.out, List.length_append] at hs2
   have HS := Is.hid hs1
   clear hs1
   go_wp2_with (at_builtin; refine stop ?_)
   (refine on_ ?_; refine app_u8 rfl (.tmp 12) (.tmp 13) rfl rfl rfl hown hbi (by first | omega | (simp; omega)) (by first | omega | (simp; omega)) ?_)
   intro l3 A3 c3 w3 hl3 hn3 ho3 hb3 _ _
   go_wp2
   go_roundw
   case rel =>
    refine ⟨k + 1, A3, c3, l3, ?_, by omega, rfl, by go_num, ho3, hbr.trans hb3⟩
    unfold Is
    rw [hl3.out, hpre.out, HS.out]
   case measure => simp [intOf]; omega
  ·go_wp2
   go_ret
   refine OutB.mk' ?_ hown hbr
   rw [hpre.out, List.take_of_length_le (by omega)]
end Go.Proofs.YtcmllcmcbamlbaaDoor
namespace Go.Proofs.YtcmllcmcbamlbaaDoor
open Go.RowKit

/-- Bytes do not lie in a block. -/
def Far (A : Option Addr) (x : List Int) (g : Option Nat) : Prop := x ≠ [] → blkOf A ≠ g
theorem Bs.blk {w : World} {A : Option Addr} {x : List Int} (h : Bs w A x) (hx : x ≠ []) : ∃ k, blkOf A = some k ∧ k < w.heap.size := by
 obtain ⟨b, o, rfl, hb, _⟩ := h 0 (by rcases x with _ | _ <;> simp_all)
 exact ⟨b, rfl, hb⟩
theorem Bs.grown {w w' : World} {A : Option Addr} {x : List Int} {g : Option Nat} (h : Bs w A x) (hg : w.grownBy w' g) (hf : Far A x g) : Bs w' A x := fun i hi => by
 obtain ⟨b, o, rfl, hb, hc⟩ := h i hi
 have hx : x ≠ [] := by rintro rfl; simp at hi
 exact ⟨b, o, rfl, Nat.lt_of_lt_of_le hb hg.size, (gb_cell hg hb (hf hx)).trans hc⟩
theorem Far.nil (A : Option Addr) (g : Option Nat) : Far A [] g := fun h => absurd rfl h
theorem Far.none (A : Option Addr) (x : List Int) {w : World} (h : Bs w A x) : Far A x none := fun hx => by
 obtain ⟨k, hk, _⟩ := h.blk hx
 rw [hk]; simp
/-- Elder bytes and a younger slice. -/
theorem far_old {w0 w : World} {A A2 : Option Addr} {x l : List Int} {c base : Nat} (hx : Bs w0 A2 x) (ho : OwnB base w A c l) (hb : w0.heap.size ≤ base) : Far A2 x (blkOf A) := fun h e => by
 obtain ⟨k, hk, hlt⟩ := hx.blk h
 have := (ho.blk_ge k (e ▸ hk)).1
 omega
/-- Younger bytes and an elder slice. -/
theorem far_new {w w2 : World} {A A2 : Option Addr} {x l : List Int} {c c2 base base2 : Nat} (hx : OwnB base2 w2 A2 c2 x) (ho : OwnB base w A c l) (hb : w.heap.size ≤ base2) : Far A2 x (blkOf A) := fun _ e => by
 cases hA : blkOf A with
 | none =>
  rcases hx.form with ⟨_, _, rfl⟩ | ⟨g, cur, rfl, _⟩
  ·contradiction
  ·rw [hA] at e; cases e
 | some k =>
  have h1 := (ho.blk_ge k hA).2
  have h2 := (hx.blk_ge k (e.trans hA)).1
  omega
/-- Behind an append. -/
theorem Far.step {w : World} {A A' A2 : Option Addr} {x : List Int} (h : Far A2 x (blkOf A)) (hx : Bs w A2 x) (hn : blkOf A' = blkOf A ∨ ∃ k, blkOf A' = some k ∧ w.heap.size ≤ k) : Far A2 x (blkOf A') := fun h0 => by
 rcases hn with e | ⟨k, e, hk⟩
 ·rw [e]; exact h h0
 ·obtain ⟨k', e', hlt⟩ := hx.blk h0
  rw [e, e']
  intro h'
  injection h' with h'
  omega

/-- What a function leaves that puts bytes behind those of a slice (A) of the caller's own. -/
def AddB (base : Nat) (w : World) (A : Option Addr) (l : List Int) (e : Ending) (w' : World) : Prop :=
 ∃ l' A' c', Is l' l ∧ e = .returned (.slice A' l'.length c') ∧ OwnB base w' A' c' l' ∧ w.grownBy w' (blkOf A) ∧ (blkOf A' = blkOf A ∨ ∃ k, blkOf A' = some k ∧ w.heap.size ≤ k)
theorem AddB.mk' {base : Nat} {w w' : World} {A A' : Option Addr} {l l' : List Int} {c : Nat} (hl : l' = l) (h : OwnB base w' A' c l') (hg : w.grownBy w' (blkOf A)) (hn : blkOf A' = blkOf A ∨ ∃ k, blkOf A' = some k ∧ w.heap.size ≤ k) :
  AddB base w A l (.returned (.slice A' l'.length c)) w' := by
 exact ⟨l', A', c, hl, rfl, h, hg, hn⟩
/-- One append behind another. -/
theorem at_trans {w w1 : World} {A A1 A2 : Option Addr} (h1 : blkOf A1 = blkOf A ∨ ∃ k, blkOf A1 = some k ∧ w.heap.size ≤ k) (hs : w.heap.size ≤ w1.heap.size) (h2 : blkOf A2 = blkOf A1 ∨ ∃ k, blkOf A2 = some k ∧ w1.heap.size ≤ k) : blkOf A2 = blkOf A ∨ ∃ k, blkOf A2 = some k ∧ w.heap.size ≤ k := by
 rcases h2 with e2 | ⟨k, e2, hk⟩
 ·rcases h1 with e1 | ⟨k, e1, hk⟩
  ·exact .inl (e2.trans e1)
  ·exact .inr ⟨k, e2.trans e1, hk⟩
 ·exact .inr ⟨k, e2, by omega⟩
theorem at_app {w w0 : World} {A A1 : Option Addr} (h : blkOf A1 = blkOf A ∨ blkOf A1 = some w.heap.size) (hs : w0.heap.size ≤ w.heap.size) : blkOf A1 = blkOf A ∨ ∃ k, blkOf A1 = some k ∧ w0.heap.size ≤ k := h.imp id fun e => ⟨_, e, hs⟩
/-- Two steps, each at the slice of its time: of the block that was there first alone. -/
theorem gb_step {w w1 w2 : World} {A A1 : Option Addr} (h1 : w.grownBy w1 (blkOf A)) (hn : blkOf A1 = blkOf A ∨ ∃ k, blkOf A1 = some k ∧ w.heap.size ≤ k) (h2 : w1.grownBy w2 (blkOf A1)) : w.grownBy w2 (blkOf A) :=
 ⟨h2.os.trans h1.os, h2.tape.trans h1.tape, h2.output.trans h1.output, Nat.le_trans h1.size h2.size, fun i hi hne => by
  refine (h2.block i (Nat.lt_of_lt_of_le hi h1.size) ?_).trans (h1.block i hi hne)
  rcases hn with e | ⟨k, e, hk⟩
  ·rw [e]; exact hne
  ·rw [e]
   intro h
   injection h with h
   omega⟩

theorem or_byte (m : Nat) : bits .or .u8 ((m : Int) % 256) 128 = ((m % 128 + 128 : Nat) : Int) := by
 have e2 : (m : Int) % 256 = ((m % 256 : Nat) : Int) := by omega
 rw [e2]
 have h1 := u8_or_nat (m % 256) 128 (by omega) (by omega)
 have : (m % 256) ||| 128 = m % 128 + 128 := by
  have : ∀ x : Fin 256, x.val ||| 128 = x.val % 128 + 128 := by decide +kernel
  rw [this ⟨m % 256, by omega⟩]
  show m % 256 % 128 + 128 = _
  omega
 rw [this] at h1
 exact h1

set_option maxRecDepth 100000 in
theorem c_putUvarintN {base : Nat} {A : Option Addr} {c : Nat} {l : List Int} (n : Nat) (w : World) (ho : OwnB base w A c l) (hbase : base ≤ w.heap.size) (hl : l.length ≤ 20000000000000) (hn : n ≤ 9223372036854775807) :
  Calls Tryd.prog 64 #[.slice A l.length c, .int .u64 n] w (AddB base w A (l ++ vi n)) := by
 go_enter Tryd.func64, Tryd.ntmps64
 go_wp2
 go_loopw [0, 1] (fun v u wr => ∃ m : Nat, ∃ A' c' pre, Is (l ++ vi n) (pre ++ vi m) ∧ m ≤ n ∧ v = .slice A' pre.length c' ∧ u = .int .u64 m ∧ OwnB base wr A' c' pre ∧ w.grownBy wr (blkOf A) ∧ (blkOf A' = blkOf A ∨ ∃ k, blkOf A' = some k ∧ w.heap.size ≤ k))
  (fun _ u _ => (intOf u).toNat)
 case atStart => exact ⟨n, A, c, l, rfl, Nat.le_refl _, rfl, rfl, ho, gb_refl _ _, .inl rfl⟩
 case round =>
  obtain ⟨m, A', c', pre, hvi, hm, rfl, rfl, hown, hg, hat⟩ := hrel
  have hz := hg.size
  have hpre : pre.length ≤ l.length + 10 := by
   have h1 := congrArg List.length hvi.out
   have h2 := vi_len63 n hn
   rw [List.length_append, List.length_append] at h1
   omega
  have HH := Is.hid hat
  clear hat
  by_cases hlt : m < 128
  ·go_wp2_with (at_builtin; refine stop ?_)
   (refine on_ ?_; refine app_u8 rfl (.tmp 15) (.tmp 18) rfl rfl (l2 := [_]) (c2 := 1) rfl (hown.alloc _) (bs_one _ _ _) (by first | omega | (simp; omega)) (by first | omega | (simp; omega)) ?_)
   intro l1 A1 c1 w1 hl1 hn1 hown1 hb1 hg1 hat1
   have H1 := Is.hid hat1
   clear hat1
   go_wp2
   go_ret
   have ht := at_app (w0 := wr) H1.out (by simp)
   refine AddB.mk' ?_ hown1 (gb_step hg HH.out (gb_trans (World.grownBy_alloc _ _ _) hg1)) (at_trans HH.out hz ht)
   rw [hl1.out, hvi.out, vi_lo m hlt]
  ·go_wp2_with (at_builtin; refine stop ?_)
   (refine on_ ?_; refine app_u8 rfl (.tmp 7) (.tmp 11) rfl rfl (l2 := [_]) (c2 := 1) rfl (hown.alloc _) (bs_one _ _ _) (by first | omega | (simp; omega)) (by first | omega | (simp; omega)) ?_)
   intro l1 A1 c1 w1 hl1 hn1 hown1 hb1 hg1 hat1
   have H1 := Is.hid hat1
   clear hat1
   go_wp2
   go_roundw
   case rel =>
    have ht := at_app (w0 := wr) H1.out (by simp)
    refine ⟨m / 128, A1, c1, l1, ?_, by omega, rfl, by simp, hown1, gb_step hg HH.out (gb_trans (World.grownBy_alloc _ _ _) hg1), at_trans HH.out hz ht⟩
    unfold Is
    rw [hl1.out, hvi.out, vi_hi m hlt, or_byte, List.append_assoc]
    rfl
   case measure => simp [intOf]; omega
theorem c_putUvarint {base : Nat} {A : Option Addr} {c : Nat} {l : List Int} (a : Int) (w : World) (ho : OwnB base w A c l) (hbase : base ≤ w.heap.size) (hl : l.length ≤ 20000000000000) (h0 : 0 ≤ a) (h1 : a ≤ 9223372036854775807) :
  Calls Tryd.prog 64 #[.slice A l.length c, .int .u64 a] w (AddB base w A (l ++ vi a.toNat)) := by
 obtain ⟨n, rfl⟩ := Int.eq_ofNat_of_zero_le h0
 exact c_putUvarintN n w ho hbase hl (by omega)

set_option maxRecDepth 100000 in
theorem c_putNumber {base : Nat} {A : Option Addr} {c : Nat} {l : List Int} (f a : Int) (w : World) (ho : OwnB base w A c l) (hbase : base ≤ w.heap.size) (hl : l.length ≤ 10000000000000) (hf : 0 ≤ f ∧ f ≤ 15) (h0 : 0 ≤ a) (h1 : a ≤ 9223372036854775807) :
  Calls Tryd.prog 57 #[.slice A l.length c, .int .i64 f, .int .u64 a] w (AddB base w A (l ++ numL f.toNat a.toNat)) := by
 by_cases hz : a = 0
 ·subst hz
  go_enter Tryd.func57, Tryd.ntmps57
  go_wp2
  go_ret
  exact AddB.mk' (by simp [numL]) ho (gb_refl _ _) (.inl rfl)
 ·have h1 : (a == 0) = false := by simpa using hz
  have hfin : Is (numL f.toNat a.toNat) ((f * 8 : Int) :: vi a.toNat) := by unfold Is numL; rw [if_neg (by omega)]; congr 1; omega
  clear hz
  have e8 : f * 8 % 256 = f * 8 := by omega
  go_enter Tryd.func57, Tryd.ntmps57
  go_wp2_with (at_builtin; refine stop ?_)
  (refine on_ ?_; refine app_u8 rfl (.tmp 10) (.tmp 14) rfl rfl (l2 := [_]) (c2 := 1) rfl (ho.alloc _) (bs_one _ _ _) (by first | omega | (simp; omega)) (by first | omega | (simp; omega)) ?_)
  intro l1 A1 c1 w1 hl1 hn1 ho1 hb1 hg1 hat1
  have H1 := Is.hid hat1
  clear hat1
  simp only [List.length_singleton] at hn1
  have hz1 := hg1.size
  simp only [World.size_alloc] at hz1
  go_wp2_with (fail)
  refine (c_putUvarint _ _ ho1 (by omega) (by omega) h0 (by omega)).mono ?_
  rintro e w2 ⟨l2, A2, c2, hl2, rfl, ho2, hg2, hat2⟩
  have H2 := Is.hid hat2
  clear hat2
  go_wp2
  go_ret
  have ht := at_app (w0 := w) H1.out (by simp)
  refine AddB.mk' ?_ ho2 (gb_step (gb_trans (World.grownBy_alloc _ _ _) hg1) ht hg2) (at_trans ht (by omega) H2.out)
  rw [hl2.out, hl1.out, hfin.out, List.append_assoc]
  rfl

set_option maxRecDepth 100000 in
theorem c_putMessage {base : Nat} {A A2 : Option Addr} {c c2 : Nat} {l x : List Int} (f : Int) (w : World) (ho : OwnB base w A c l) (hbase : base ≤ w.heap.size) (hl : l.length ≤ 10000000000000) (hf : 0 ≤ f ∧ f ≤ 15) (hx : Bs w A2 x) (hfar : Far A2 x (blkOf A)) (hlx : x.length ≤ 10000000000000) :
  Calls Tryd.prog 59 #[.slice A l.length c, .int .i64 f, .slice A2 x.length c2] w (AddB base w A (l ++ withinL f.toNat x)) := by
 have h2 := or_two f hf
 have e8 : (f * 8 + 2) % 256 = f * 8 + 2 := by omega
 have hfin : Is (withinL f.toNat x) ((f * 8 + 2 : Int) :: (vi x.length ++ x)) := by unfold Is withinL; congr 1; omega
 go_enter Tryd.func59, Tryd.ntmps59
 go_wp2_with (at_builtin; refine stop ?_)
 (refine on_ ?_; refine app_u8 rfl (.tmp 7) (.tmp 12) rfl rfl (l2 := [_]) (c2 := 1) rfl (ho.alloc _) (bs_one _ _ _) (by first | omega | (simp; omega)) (by first | omega | (simp; omega)) ?_)
 intro l1 A1 c1 w1 hl1 hn1 ho1 hb1 hg1 hat1
 have H1 := Is.hid hat1
 clear hat1
 simp only [List.length_singleton] at hn1
 have hz1 := hg1.size
 simp only [World.size_alloc] at hz1
 go_wp2_with (fail)
 refine (c_putUvarint _ _ ho1 (by omega) (by omega) (by omega) (by omega)).mono ?_
 rintro e w2 ⟨l2, A3, c3, hl2, rfl, ho2, hg2, hat2⟩
 have H2 := Is.hid hat2
 clear hat2
 have ht := Is.hid (at_app (w0 := w) H1.out (by simp))
 have hg12 := gb_step (gb_trans (World.grownBy_alloc w _ _) hg1) ht.out hg2
 have ht2 := Is.hid (at_trans ht.out (by omega) H2.out)
 have hx2 := hx.grown hg12 hfar
 have hz2 := hg2.size
 have hn2 : l2.length ≤ l.length + 11 := by
  have hv := vi_len63 ((x.length : Int).toNat) (by omega)
  rw [hl2.out, List.length_append]
  omega
 go_wp2_with (at_builtin; refine stop ?_)
 (refine on_ ?_; refine app_u8 rfl (.tmp 18) (.tmp 19) rfl rfl rfl ho2 hx2 (by first | omega | (simp; omega)) (by first | omega | (simp; omega)) ?_)
 intro l4 A4 c4 w4 hl4 hn4 ho4 hb4 hg4 hat4
 have H4 := Is.hid hat4
 clear hat4
 go_wp2
 go_ret
 refine AddB.mk' ?_ ho4 (gb_step hg12 ht2.out hg4) (at_trans ht2.out (by omega) (at_app (w0 := w2) H4.out (Nat.le_refl _)))
 rw [hl4.out, hl2.out, hl1.out, hfin.out, Int.toNat_natCast]
 simp

set_option maxRecDepth 100000 in
theorem c_putText {base : Nat} {A A2 : Option Addr} {c c2 : Nat} {l x : List Int} (f : Int) (w : World) (ho : OwnB base w A c l) (hbase : base ≤ w.heap.size) (hl : l.length ≤ 10000000000000) (hf : 0 ≤ f ∧ f ≤ 15) (hx : Bs w A2 x) (hfar : Far A2 x (blkOf A)) (hlx : x.length ≤ 10000000000000) :
  Calls Tryd.prog 60 #[.slice A l.length c, .int .i64 f, .slice A2 x.length c2] w (AddB base w A (l ++ someL f.toNat x)) := by
 by_cases h0 : x = []
 ·subst h0
  go_enter Tryd.func60, Tryd.ntmps60
  go_wp2
  go_ret
  exact AddB.mk' (by simp [someL]) ho (gb_refl _ _) (.inl rfl)
 ·have h1 : ((x.length : Int) == 0) = false := by
   have : x.length ≠ 0 := fun e => h0 (List.eq_nil_of_length_eq_zero e)
   simp
   omega
  have hfin : Is (someL f.toNat x) (withinL f.toNat x) := by unfold Is someL; rw [if_neg h0]
  clear h0
  go_enter Tryd.func60, Tryd.ntmps60
  go_wp2_with (fail)
  refine (c_putMessage _ _ ho hbase hl hf hx hfar hlx).mono ?_
  rintro e w1 ⟨l1, A1, c1, hl1, rfl, ho1, hg1, hat1⟩
  have H1 := Is.hid hat1
  clear hat1
  go_wp2
  go_ret
  exact AddB.mk' (by rw [hl1.out, hfin.out]) ho1 hg1 H1.out

/-! ### Onto nothing -/
theorem AddB.out {w : World} {l : List Int} {e : Ending} {w' : World} (h : AddB w.heap.size w none ([] ++ l) e w') : OutB w l e w' := by
 obtain ⟨l', A, c, hl, he, ho, hg, _⟩ := h
 exact ⟨l', A, c, hl, he, ho, (OwnB.nil w.heap.size w).below (Nat.le_refl _) hg⟩
theorem c_putNumber0 (f a : Int) (w : World) (hf : 0 ≤ f ∧ f ≤ 15) (h0 : 0 ≤ a) (h1 : a ≤ 9223372036854775807) :
  Calls Tryd.prog 57 #[.slice none 0 0, .int .i64 f, .int .u64 a] w (OutB w (numL f.toNat a.toNat)) :=
 (c_putNumber (l := []) f a w (OwnB.nil _ _) (Nat.le_refl _) (by simp) hf h0 h1).mono fun _ _ h => h.out
theorem c_putMessage0 {A2 : Option Addr} {c2 : Nat} {x : List Int} (f : Int) (w : World) (hf : 0 ≤ f ∧ f ≤ 15) (hx : Bs w A2 x) (hlx : x.length ≤ 10000000000000) :
  Calls Tryd.prog 59 #[.slice none 0 0, .int .i64 f, .slice A2 x.length c2] w (OutB w (withinL f.toNat x)) :=
 (c_putMessage (l := []) f w (OwnB.nil _ _) (Nat.le_refl _) (by simp) hf hx (Far.none _ _ hx) hlx).mono fun _ _ h => h.out
theorem c_putText0 {A2 : Option Addr} {c2 : Nat} {x : List Int} (f : Int) (w : World) (hf : 0 ≤ f ∧ f ≤ 15) (hx : Bs w A2 x) (hlx : x.length ≤ 10000000000000) :
  Calls Tryd.prog 60 #[.slice none 0 0, .int .i64 f, .slice A2 x.length c2] w (OutB w (someL f.toNat x)) :=
 (c_putText (l := []) f w (OwnB.nil _ _) (Nat.le_refl _) (by simp) hf hx (Far.none _ _ hx) hlx).mono fun _ _ h => h.out
end Go.Proofs.YtcmllcmcbamlbaaDoor
namespace Go.Proofs.YtcmllcmcbamlbaaDoor
open Go.RowKit

theorem sx_own {W w' w'' : World} {base : Nat} {A : Option Addr} {c : Nat} {l : List Int} (h : Below W.heap.size W w' ∧ ∀ b o, b < W.heap.size → w'.cell? ⟨b, o, none⟩ = W.cell? ⟨b, o, none⟩) (hg : w'.grownBy w'' (blkOf A)) (ho : OwnB base w' A c l) (hb : W.heap.size ≤ base) :
  Below W.heap.size W w'' ∧ ∀ b o, b < W.heap.size → w''.cell? ⟨b, o, none⟩ = W.cell? ⟨b, o, none⟩ :=
 sx_of (h.1.grown hg h.1.size (fun k hk => by have := (ho.blk_ge k hk).1; omega))

theorem c_Unix (s n : Int) (w : World) (hs : 0 ≤ s ∧ s ≤ 9000000000000000000) : Calls Tryd.prog 58 #[.agg #[.int .i64 s, .int .i32 n]] w fun e w' => e = .returned (.int .i64 (s - 62135596800)) ∧ Below w.heap.size w w' := by
 go_enter Tryd.func58, Tryd.ntmps58
 go_wp2
 go_ret
 exact ⟨rfl, by (repeat' (first | exact Below.refl _ _ | exact Nat.le_refl _ | (with_reducible assumption) | refine Below.setCell ?_ ?_ _ | refine Below.alloc ?_ ?_ _ | refine below_drewN ?_ _ | refine Below.drew ?_ | (simp; done) | omega | (simp; omega) | (simp at *; omega)))⟩

set_option maxRecDepth 100000 in
theorem c_ConsM (a b : Int) (w : World) (ha : 0 ≤ a ∧ a ≤ 9223372036854775807) (hb : 0 ≤ b ∧ b ≤ 9223372036854775807) :
  Calls Tryd.prog 48 #[.agg #[.int .u64 a, .int .u64 b]] w (OutB w (numL 1 a.toNat ++ numL 2 b.toNat)) := by
 go_enter Tryd.func48, Tryd.ntmps48
 go_upto_region 1 with (fail)
 have b1 : Blk (w.alloc (.cells #[.int .u64 a, .int .u64 b] 84)) w.heap.size 84 #[.int .u64 a, .int .u64 b] := (Blk.new _ _ _); have hW : Below w.heap.size w (w.alloc (.cells #[.int .u64 a, .int .u64 b] 84)) := (by (repeat' (first | exact Below.refl _ _ | exact Nat.le_refl _ | (with_reducible assumption) | refine Below.setCell ?_ ?_ _ | refine Below.alloc ?_ ?_ _ | refine below_drewN ?_ _ | refine Below.drew ?_ | (simp; done) | omega | (simp; omega) | (simp at *; omega)))); have zW : (w.alloc (.cells #[.int .u64 a, .int .u64 b] 84)).heap.size = w.heap.size + 1 := (by simp); generalize (w.alloc (.cells #[.int .u64 a, .int .u64 b] 84)) = W at b1 hW zW ⊢; have c1 := b1.cell
 go_region_held (fun w' => Below (W).heap.size (W) w' ∧ ∀ b o, b < (W).heap.size → w'.cell? ⟨b, o, none⟩ = (W).cell? ⟨b, o, none⟩) ((first | exact sx_drew0 _ | exact sx_drew (by assumption) | exact sx_alloc (by assumption) _ | exact sx_bytes (by assumption) _ _ | exact sx_after (by assumption) (by assumption) | exact sx_own (by assumption) (by assumption) (by assumption) (by first | exact Nat.le_refl _ | omega | (simp; omega)) | exact sx_own (by assumption) (by assumption) (OwnB.after (by assumption) (by assumption)) (by first | exact Nat.le_refl _ | omega | (simp; omega))))
  (first
   | (go_at_call 57; (with_reducible refine (c_putNumber0 _ _ _ (by omega) (by omega) (by omega)).mono ?_); rintro e w1 ⟨l1, A1, k1, hl1, rfl, ho1, hb1⟩)
   | (go_at_call 57; (with_reducible refine (c_putNumber _ _ _ ho1 hb1.size (by rw [hl1.out]; have := numL_len (1 : Int).toNat a.toNat (by omega); omega) (by omega) (by omega) (by omega)).mono ?_); rintro e w2 ⟨l2, A2, k2, hl2, rfl, ho2, hg2, hat2⟩))
 have _t := Is.hid hat2
 clear hat2
 go_wp2
 go_ret
 exact OutB.mk' (by rw [hl2.out, hl1.out]; rfl) (ho2.less (by first | omega | (simp; omega))) (sx_end hW (by assumption))

set_option maxRecDepth 100000 in
theorem c_TimeM (s n : Int) (w : World) (hs : 62135596800 ≤ s ∧ s ≤ 9000000000000000000) (hn : 0 ≤ n ∧ n ≤ 2147483647) :
  Calls Tryd.prog 49 #[.agg #[.int .i64 s, .int .i32 n]] w (OutB w (numL 1 (s - 62135596800).toNat ++ numL 2 n.toNat)) := by
 have e1 : IntKind.u64.wrap (s - 62135596800) = s - 62135596800 := IntWalk.u64_in _ (by omega)
 have e2 : IntKind.u64.wrap n = n := IntWalk.u64_in _ (by omega)
 have e3 : IntKind.i64.wrap n = n := IntWalk.i64_in _ (by omega)
 go_enter Tryd.func49, Tryd.ntmps49
 go_upto_region 1 with (fail)
 have b1 : Blk (w.alloc (.cells #[.int .i64 s, .int .i32 n] 86)) w.heap.size 86 #[.int .i64 s, .int .i32 n] := (Blk.new _ _ _); have hW : Below w.heap.size w (w.alloc (.cells #[.int .i64 s, .int .i32 n] 86)) := (by (repeat' (first | exact Below.refl _ _ | exact Nat.le_refl _ | (with_reducible assumption) | refine Below.setCell ?_ ?_ _ | refine Below.alloc ?_ ?_ _ | refine below_drewN ?_ _ | refine Below.drew ?_ | (simp; done) | omega | (simp; omega) | (simp at *; omega)))); have zW : (w.alloc (.cells #[.int .i64 s, .int .i32 n] 86)).heap.size = w.heap.size + 1 := (by simp); generalize (w.alloc (.cells #[.int .i64 s, .int .i32 n] 86)) = W at b1 hW zW ⊢; have c1 := b1.cell
 go_region_held (fun w' => Below (W).heap.size (W) w' ∧ ∀ b o, b < (W).heap.size → w'.cell? ⟨b, o, none⟩ = (W).cell? ⟨b, o, none⟩) ((first | exact sx_drew0 _ | exact sx_drew (by assumption) | exact sx_alloc (by assumption) _ | exact sx_bytes (by assumption) _ _ | exact sx_after (by assumption) (by assumption) | exact sx_own (by assumption) (by assumption) (by assumption) (by first | exact Nat.le_refl _ | omega | (simp; omega)) | exact sx_own (by assumption) (by assumption) (OwnB.after (by assumption) (by assumption)) (by first | exact Nat.le_refl _ | omega | (simp; omega))))
  (first
   | ((go_at_call 58; (with_reducible refine (c_Unix _ _ _ (by omega)).mono ?_); rintro e w0 ⟨rfl, hb0⟩); have hz0 : W.heap.size ≤ w0.heap.size := hb0.size)
   | (go_at_call 57; (with_reducible refine (c_putNumber0 _ _ _ (by omega) (by omega) (by omega)).mono ?_); rintro e w1 ⟨l1, A1, k1, hl1, rfl, ho1, hb1⟩)
   | (go_at_call 57; (with_reducible refine (c_putNumber _ _ _ ho1 hb1.size (by rw [hl1.out]; have := numL_len (1 : Int).toNat (s - 62135596800).toNat (by omega); omega) (by omega) (by omega) (by omega)).mono ?_); rintro e w2 ⟨l2, A2, k2, hl2, rfl, ho2, hg2, hat2⟩))
 have _t := Is.hid hat2
 clear hat2
 go_wp2
 go_ret
 exact OutB.mk' (by rw [hl2.out, hl1.out]; rfl) (ho2.less (by first | omega | (simp; omega))) (sx_end hW (by assumption))

/-- A part set's header; a block's name. -/
def pshL (p : Int) (r : List Int) : List Int := numL 1 p.toNat ++ someL 2 r
def bidL (s : List Int) (p : Int) (r : List Int) : List Int := someL 1 s ++ withinL 2 (pshL p r)
theorem pshL_len (p : Int) (r : List Int) (hp : p ≤ 4294967295) (hr : r.length ≤ 1000000000000) : (pshL p r).length ≤ r.length + 22 := by
 unfold pshL
 have h1 := numL_len 1 p.toNat (by omega)
 have h2 := someL_len 2 r (by omega)
 rw [List.length_append]
 omega

set_option maxRecDepth 100000 in
theorem c_PshM (p : Int) (A : Option Addr) (c : Nat) (r : List Int) (w : World) (hp : 0 ≤ p ∧ p ≤ 4294967295) (hr : Bs w A r) (hlr : r.length ≤ 1000000000000) :
  Calls Tryd.prog 61 #[.agg #[.int .u32 p, .slice A r.length c]] w (OutB w (pshL p r)) := by
 have e1 : IntKind.u64.wrap p = p := IntWalk.u64_in _ (by omega)
 go_enter Tryd.func61, Tryd.ntmps61
 go_upto_region 1 with (fail)
 have hr1 := hr.alloc (.cells #[.int .u32 p, .slice A r.length c] 89)
 have b1 : Blk (w.alloc (.cells #[.int .u32 p, .slice A r.length c] 89)) w.heap.size 89 #[.int .u32 p, .slice A r.length c] := Blk.new _ _ _
 have hW : Below w.heap.size w (w.alloc (.cells #[.int .u32 p, .slice A r.length c] 89)) := by (repeat' (first | exact Below.refl _ _ | exact Nat.le_refl _ | (with_reducible assumption) | refine Below.setCell ?_ ?_ _ | refine Below.alloc ?_ ?_ _ | refine below_drewN ?_ _ | refine Below.drew ?_ | (simp; done) | omega | (simp; omega) | (simp at *; omega)))
 have zW : (w.alloc (.cells #[.int .u32 p, .slice A r.length c] 89)).heap.size = w.heap.size + 1 := by simp
 generalize (w.alloc (.cells #[.int .u32 p, .slice A r.length c] 89)) = W at b1 hW zW hr1 ⊢
 have c1 := b1.cell
 have hrd : Bs W.drew A r := hr1
 go_region_held (fun w' => Below (W).heap.size (W) w' ∧ ∀ b o, b < (W).heap.size → w'.cell? ⟨b, o, none⟩ = (W).cell? ⟨b, o, none⟩) ((first | exact sx_drew0 _ | exact sx_drew (by assumption) | exact sx_alloc (by assumption) _ | exact sx_bytes (by assumption) _ _ | exact sx_after (by assumption) (by assumption) | exact sx_own (by assumption) (by assumption) (by assumption) (by first | exact Nat.le_refl _ | omega | (simp; omega)) | exact sx_own (by assumption) (by assumption) (OwnB.after (by assumption) (by assumption)) (by first | exact Nat.le_refl _ | omega | (simp; omega))))
  (first
   | (go_at_call 57; (with_reducible refine (c_putNumber0 _ _ _ (by omega) (by omega) (by omega)).mono ?_); rintro e w1 ⟨l1, A1, k1, hl1, rfl, ho1, hb1⟩)
   | (go_at_call 60; (with_reducible refine (c_putText _ _ ho1 hb1.size (by rw [hl1.out]; have := numL_len (1 : Int).toNat p.toNat (by omega); omega) (by omega) (hrd.below hb1) (far_old hrd ho1 (Nat.le_refl _)) (by omega)).mono ?_); rintro e w2 ⟨l2, A2, k2, hl2, rfl, ho2, hg2, hat2⟩))
 have _t := Is.hid hat2
 clear hat2
 go_wp2
 go_ret
 exact OutB.mk' (by rw [hl2.out, hl1.out]; rfl) (ho2.less (by first | omega | (simp; omega))) (sx_end hW (by assumption))

set_option maxRecDepth 100000 in
theorem c_BidM (p : Int) (A A' : Option Addr) (c c' : Nat) (s r : List Int) (w : World) (hp : 0 ≤ p ∧ p ≤ 4294967295) (hs : Bs w A s) (hls : s.length ≤ 1000000000000) (hr : Bs w A' r) (hlr : r.length ≤ 1000000000000) :
  Calls Tryd.prog 50 #[.agg #[.slice A s.length c, .int .u32 p, .slice A' r.length c']] w (OutB w (bidL s p r)) := by
 go_enter Tryd.func50, Tryd.ntmps50
 go_upto_region 1 with (fail)
 have hr1 := hr.alloc (.cells #[.slice A s.length c, .int .u32 p, .slice A' r.length c'] 91)
 have hs1 := hs.alloc (.cells #[.slice A s.length c, .int .u32 p, .slice A' r.length c'] 91)
 have b1 : Blk (w.alloc (.cells #[.slice A s.length c, .int .u32 p, .slice A' r.length c'] 91)) w.heap.size 91 #[.slice A s.length c, .int .u32 p, .slice A' r.length c'] := Blk.new _ _ _
 have hW : Below w.heap.size w (w.alloc (.cells #[.slice A s.length c, .int .u32 p, .slice A' r.length c'] 91)) := by (repeat' (first | exact Below.refl _ _ | exact Nat.le_refl _ | (with_reducible assumption) | refine Below.setCell ?_ ?_ _ | refine Below.alloc ?_ ?_ _ | refine below_drewN ?_ _ | refine Below.drew ?_ | (simp; done) | omega | (simp; omega) | (simp at *; omega)))
 have zW : (w.alloc (.cells #[.slice A s.length c, .int .u32 p, .slice A' r.length c'] 91)).heap.size = w.heap.size + 1 := by simp
 generalize (w.alloc (.cells #[.slice A s.length c, .int .u32 p, .slice A' r.length c'] 91)) = W at b1 hW zW hr1 hs1 ⊢
 have c1 := b1.cell
 have hrd : Bs W.drew A' r := hr1
 have hsd : Bs W.drew A s := hs1
 go_region_held (fun w' => Below (W).heap.size (W) w' ∧ ∀ b o, b < (W).heap.size → w'.cell? ⟨b, o, none⟩ = (W).cell? ⟨b, o, none⟩) ((first | exact sx_drew0 _ | exact sx_drew (by assumption) | exact sx_alloc (by assumption) _ | exact sx_bytes (by assumption) _ _ | exact sx_after (by assumption) (by assumption) | exact sx_own (by assumption) (by assumption) (by assumption) (by first | exact Nat.le_refl _ | omega | (simp; omega)) | exact sx_own (by assumption) (by assumption) (OwnB.after (by assumption) (by assumption)) (by first | exact Nat.le_refl _ | omega | (simp; omega))))
  (first
   | (go_at_call 60; (with_reducible refine (c_putText0 _ _ (by omega) hsd (by omega)).mono ?_); rintro e w1 ⟨l1, A1, k1, hl1, rfl, ho1, hb1⟩)
   | (go_at_call 61; (with_reducible refine (c_PshM _ _ _ _ _ (by omega) (hrd.below hb1) (by omega)).mono ?_); rintro e w2 ⟨l2, A2, k2, hl2, rfl, ho2, hb2⟩)
   | (go_at_call 59; (with_reducible refine (c_putMessage _ _ (ho1.after hb2) (Nat.le_trans hb1.size hb2.size) (by rw [hl1.out]; have := someL_len (1 : Int).toNat s (by omega); omega) (by omega) ho2.bs (far_new ho2 ho1 (Nat.le_refl _)) (by rw [hl2.out]; have := pshL_len p r (by omega) (by omega); omega)).mono ?_); rintro e w3 ⟨l3, A3, k3, hl3, rfl, ho3, hg3, hat3⟩))
 have _t := Is.hid hat3
 clear hat3
 go_wp2
 go_ret
 exact OutB.mk' (by rw [hl3.out, hl1.out, hl2.out]; rfl) (ho3.less (by first | omega | (simp; omega))) (sx_end hW (by assumption))

theorem c_cdcInt64 (a : Int) (w : World) (h0 : 0 ≤ a) (h1 : a ≤ 9223372036854775807) : Calls Tryd.prog 53 #[.int .i64 a] w (OutB w (numL 1 a.toNat)) := by
 go_enter Tryd.func53, Tryd.ntmps53
 go_wp2_with (go_at_call 57; (with_reducible refine (c_putNumber0 _ _ _ (by omega) (by omega) (by omega)).mono ?_); rintro e w1 ⟨l1, A1, k1, hl1, rfl, ho1, hb1⟩)
 go_ret
 exact OutB.mk' hl1.out ho1 hb1
theorem c_cdcBytes (A : Option Addr) (c : Nat) (x : List Int) (w : World) (hx : Bs w A x) (hl : x.length ≤ 1000000000000) : Calls Tryd.prog 54 #[.slice A x.length c] w (OutB w (someL 1 x)) := by
 by_cases h0 : x = []
 ·subst h0
  go_enter Tryd.func54, Tryd.ntmps54
  go_wp2
  go_ret
  exact OutB.mk' rfl (OwnB.nil _ _) (Below.refl _ _)
 ·have h1 : ((x.length : Int) == 0) = false := by
   have : x.length ≠ 0 := fun e => h0 (List.eq_nil_of_length_eq_zero e)
   simp
   omega
  clear h0
  go_enter Tryd.func54, Tryd.ntmps54
  go_wp2_with (go_at_call 60; (with_reducible refine (c_putText0 _ _ (by omega) hx (by omega)).mono ?_); rintro e w1 ⟨l1, A1, k1, hl1, rfl, ho1, hb1⟩)
  go_ret
  exact OutB.mk' hl1.out ho1 hb1
theorem c_cdcString (s : ByteArray) (w : World) (hl : s.size ≤ 1000000000000) : Calls Tryd.prog 52 #[.string s] w (OutB w (someL 1 (bytesOf s))) := by
 have kc := fun (w : World) => Lib.run_convert_string_bytes (P := Tryd.prog) w 9 23 5 s Tryd.underlying9 Tryd.underlying23 Tryd.underlying5
 by_cases h0 : s.size = 0
 ·obtain rfl : s = ⟨#[]⟩ := by
   cases s with
   | mk d =>
    have hd : d.size = 0 := h0
    rw [Array.eq_empty_of_size_eq_zero hd]
  go_enter Tryd.func52, Tryd.ntmps52
  go_wp2
  go_ret
  exact OutB.mk' rfl (OwnB.nil _ _) (Below.refl _ _)
 ·have h1 : s.toList.isEmpty = false := by
   rw [← Bool.not_eq_true, List.isEmpty_iff]
   intro e
   rw [ByteArray.toList_eq] at e
   apply h0
   show s.data.size = 0
   rw [← Array.length_toList, e]
   rfl
  have hB := below_bytes (Below.refl w.heap.size w) (Nat.le_refl _) 5 s
  clear h0
  go_enter Tryd.func52, Tryd.ntmps52
  go_wp2_with (fail)
  have hc := c_putText0 (c2 := grownCap w s.size 0 5) 1 _ (by omega) (bs_conv w 5 s) (by rw [bytesOf_length]; omega)
  rw [bytesOf_length] at hc
  refine hc.mono ?_
  rintro e w1 ⟨l1, A1, k1, hl1, rfl, ho1, hb1⟩
  go_wp2
  go_ret
  exact OutB.mk' hl1.out (ho1.less hB.size) (bz_then hB hb1)
end Go.Proofs.YtcmllcmcbamlbaaDoor
namespace Go.Proofs.YtcmllcmcbamlbaaDoor
open Go.RowKit

/-- A block of slices that reads as a list of lists. -/
theorem bss_of {w : World} {g : Nat} {t : TypeId} {vs : Array Value} {ls : List (List Int)} (hb : Blk w g t vs) (h : ∀ i, i < ls.length → ∃ Ai ci, vs[i]? = some (.slice Ai (ls.getD i []).length ci) ∧ Bs w Ai (ls.getD i []) ∧ (ls.getD i []).length ≤ ci) : Bss w (some ⟨g, 0, none⟩) ls := fun i hi => by
 obtain ⟨Ai, ci, h1, h2, h3⟩ := h i hi
 exact ⟨g, 0, Ai, ci, rfl, hb.lt, by rw [Nat.zero_add, hb.cell, h1], h2, h3⟩
theorem c_joined2 {t : TypeId} {A1 A2 : Option Addr} {c1 c2 : Nat} {l1 l2 : List Int} (g c : Nat) (w : World) (hb : Blk w g t #[.slice A1 l1.length c1, .slice A2 l2.length c2]) (h1 : Bs w A1 l1) (h2 : Bs w A2 l2) (k1 : l1.length ≤ c1) (k2 : l2.length ≤ c2) (hl : l1.length + l2.length ≤ 10000000000000) :
  Calls Tryd.prog 18 #[.slice (some ⟨g, 0, none⟩) 2 c] w (OutB w (l1 ++ l2)) := by
 have h := c_joined (some ⟨g, 0, none⟩) c [l1, l2] w (bss_of hb (fun i hi => by
  have : i = 0 ∨ i = 1 := by simp at hi; omega
  rcases this with rfl | rfl
  ·exact ⟨A1, c1, rfl, h1, k1⟩
  ·exact ⟨A2, c2, rfl, h2, k2⟩)) (by simp) (by simp [flat]; omega)
 simpa [flat] using h

set_option maxRecDepth 100000 in
theorem c_MomB (s n : Int) (w : World) (hs : 0 ≤ s ∧ s ≤ 9000000000000000000) (hn : 0 ≤ n ∧ n ≤ 2147483647) :
  Calls Tryd.prog 21 #[.agg #[.int .i64 s, .int .i64 n]] w (OutB w (numL 1 s.toNat ++ numL 2 n.toNat)) := by
 go_enter Tryd.func21, Tryd.ntmps21
 go_upto_region 1 with (fail)
 have b1 : Blk (w.alloc (.cells #[.int .i64 s, .int .i64 n] 37)) w.heap.size 37 #[.int .i64 s, .int .i64 n] := (Blk.new _ _ _); have hW : Below w.heap.size w (w.alloc (.cells #[.int .i64 s, .int .i64 n] 37)) := (by (repeat' (first | exact Below.refl _ _ | exact Nat.le_refl _ | (with_reducible assumption) | refine Below.setCell ?_ ?_ _ | refine Below.alloc ?_ ?_ _ | refine below_drewN ?_ _ | refine Below.drew ?_ | (simp; done) | omega | (simp; omega) | (simp at *; omega)))); have zW : (w.alloc (.cells #[.int .i64 s, .int .i64 n] 37)).heap.size = w.heap.size + 1 := (by simp); generalize (w.alloc (.cells #[.int .i64 s, .int .i64 n] 37)) = W at b1 hW zW ⊢; have c1 := b1.cell
 go_region_held (fun w' => Below (W).heap.size (W) w' ∧ ∀ b o, b < (W).heap.size → w'.cell? ⟨b, o, none⟩ = (W).cell? ⟨b, o, none⟩) ((first | exact sx_drew0 _ | exact sx_drew (by assumption) | exact sx_alloc (by assumption) _ | exact sx_bytes (by assumption) _ _ | exact sx_after (by assumption) (by assumption)))
  (first
   | ((go_at_call 19; (with_reducible refine (c_number 1 _ _ (by omega) (by omega) (by omega)).mono ?_); rintro e w1 ⟨l1, A1, k1, hl1, rfl, ho1, hb1⟩))
   | ((go_at_call 19; (with_reducible refine (c_number 2 _ _ (by omega) (by omega) (by omega)).mono ?_); rintro e w2 ⟨l2, A2, k2, hl2, rfl, ho2, hb2⟩))
   | ((go_at_call 18; (with_reducible refine (c_joined2 _ _ _ (Blk.new _ _ _) ((ho1.after hb2).bs.alloc _) (ho2.bs.alloc _) ho1.cap ho2.cap (by rw [hl1.out, hl2.out]; have := numL_len (1 : Int).toNat s.toNat (by omega); have := numL_len (2 : Int).toNat n.toNat (by omega); omega)).mono ?_); rintro e w3 ⟨l3, A3, k3, hl3, rfl, ho3, hb3⟩)))
 go_wp2
 go_ret
 have hz1 : W.heap.size ≤ w1.heap.size := hb1.size
 have hz2 := hb2.size
 exact OutB.mk' (by rw [hl3.out, hl1.out, hl2.out]; rfl) (ho3.less (by first | omega | (simp; omega))) (sx_end hW (by assumption))

set_option maxHeartbeats 1000000 in
set_option maxRecDepth 100000 in
theorem c_BlkB (p : Int) (A A' : Option Addr) (c c' : Nat) (s r : List Int) (w : World) (hp : 0 ≤ p ∧ p ≤ 4294967295) (hs : Bs w A s) (hls : s.length ≤ 1000000000000) (hr : Bs w A' r) (hlr : r.length ≤ 1000000000000) :
  Calls Tryd.prog 22 #[.agg #[.slice A s.length c, .int .i64 p, .slice A' r.length c']] w (OutB w (bidL s p r)) := by
 go_enter Tryd.func22, Tryd.ntmps22
 go_upto_region 1 with (fail)
 have hr1 := hr.alloc (.cells #[.slice A s.length c, .int .i64 p, .slice A' r.length c'] 38)
 have hs1 := hs.alloc (.cells #[.slice A s.length c, .int .i64 p, .slice A' r.length c'] 38)
 have b1 : Blk (w.alloc (.cells #[.slice A s.length c, .int .i64 p, .slice A' r.length c'] 38)) w.heap.size 38 #[.slice A s.length c, .int .i64 p, .slice A' r.length c'] := Blk.new _ _ _
 have hW : Below w.heap.size w (w.alloc (.cells #[.slice A s.length c, .int .i64 p, .slice A' r.length c'] 38)) := by (repeat' (first | exact Below.refl _ _ | exact Nat.le_refl _ | (with_reducible assumption) | refine Below.setCell ?_ ?_ _ | refine Below.alloc ?_ ?_ _ | refine below_drewN ?_ _ | refine Below.drew ?_ | (simp; done) | omega | (simp; omega) | (simp at *; omega)))
 have zW : (w.alloc (.cells #[.slice A s.length c, .int .i64 p, .slice A' r.length c'] 38)).heap.size = w.heap.size + 1 := by simp
 generalize (w.alloc (.cells #[.slice A s.length c, .int .i64 p, .slice A' r.length c'] 38)) = W at b1 hW zW hr1 hs1 ⊢
 have c1 := b1.cell
 have hrd : Bs W.drew A' r := hr1
 have hsd : Bs W.drew A s := hs1
 have n1 := someL_len 1 s (by omega)
 have n2 := numL_len 1 p.toNat (by omega)
 have n3 := someL_len 2 r (by omega)
 go_region_held (fun w' => Below (W).heap.size (W) w' ∧ ∀ b o, b < (W).heap.size → w'.cell? ⟨b, o, none⟩ = (W).cell? ⟨b, o, none⟩) ((first | exact sx_drew0 _ | exact sx_drew (by assumption) | exact sx_alloc (by assumption) _ | exact sx_bytes (by assumption) _ _ | exact sx_after (by assumption) (by assumption)))
  (first
   | ((go_at_call 20; (with_reducible refine (c_some 1 _ _ _ _ (by omega) hsd (by omega)).mono ?_); rintro e w1 ⟨l1, A1, k1, hl1, rfl, ho1, hb1⟩); have m1 : l1.length ≤ s.length + 11 := (by rw [hl1.out]; exact n1))
   | ((go_at_call 19; (with_reducible refine (c_number 1 _ _ (by omega) (by omega) (by omega)).mono ?_); rintro e w2 ⟨l2, A2, k2, hl2, rfl, ho2, hb2⟩); have m2 : l2.length ≤ 11 := (by rw [hl2.out]; exact n2))
   | ((go_at_call 20; (with_reducible refine (c_some 2 _ _ _ _ (by omega) ((hrd.below hb1).below hb2) (by omega)).mono ?_); rintro e w3 ⟨l3, A3, k3, hl3, rfl, ho3, hb3⟩); have m3 : l3.length ≤ r.length + 11 := (by rw [hl3.out]; exact n3))
   | ((go_at_call 18; (with_reducible refine (c_joined2 _ _ _ (Blk.new _ _ _) ((ho2.after hb3).bs.alloc _) (ho3.bs.alloc _) ho2.cap ho3.cap (by omega)).mono ?_); rintro e w4 ⟨l4, A4, k4, hl4, rfl, ho4, hb4⟩); have m4 : l4.length ≤ r.length + 22 := (by rw [hl4.out, List.length_append]; omega))
   | ((go_at_call 32; (with_reducible refine (c_within 2 _ _ _ _ (by omega) ho4.bs (by omega)).mono ?_); rintro e w5 ⟨l5, A5, k5, hl5, rfl, ho5, hb5⟩); have m5 : l5.length ≤ l4.length + 11 := (by rw [hl5.out]; exact withinL_len _ _ (by omega)))
   | ((go_at_call 18; (with_reducible refine (c_joined2 _ _ _ (Blk.new _ _ _) (((((ho1.after hb2).after hb3).alloc _).after hb4).after hb5 |>.bs.alloc _) (ho5.bs.alloc _) ho1.cap ho5.cap (by omega)).mono ?_); rintro e w6 ⟨l6, A6, k6, hl6, rfl, ho6, hb6⟩)))
 go_wp2
 go_ret
 have hz1 : W.heap.size ≤ w1.heap.size := hb1.size
 have hz2 := hb2.size
 have hz3 := hb3.size
 have hz4 := hb4.size
 have hz5 := hb5.size
 simp only [World.size_alloc] at hz4
 exact OutB.mk' (by rw [hl6.out, hl1.out, hl5.out, hl4.out, hl2.out, hl3.out]; rfl) (ho6.less (by first | omega | (simp; omega))) (sx_end hW (by assumption))
end Go.Proofs.YtcmllcmcbamlbaaDoor
