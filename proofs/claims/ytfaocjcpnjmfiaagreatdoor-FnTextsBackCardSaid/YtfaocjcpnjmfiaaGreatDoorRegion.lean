/-
  A region whose operations only make memory, in whatever order: one rule with an invariant.
-/
import Derived.Test.YtfaocjcpnjmfiaaGreatDoorDesk
namespace Go.Proofs.YtfaocjcpnjmfiaaGreatDoor
open Go.RowKit
section
variable {P : Program} {ops : Array Oper} {Q : Exit → Act → World → Prop}
theorem mem_ready {listed : Array Bool} {i : Nat} (h : i ∈ Region.ready .any ops listed) : listed[i]? = some false ∧ ∃ o, ops[i]? = some o ∧ ∀ e ∈ o.after, Region.binds .any e = true → listed[e.on]? = some true := by
  unfold Region.ready at h
  simp only [List.mem_filter, List.mem_range, Bool.and_eq_true, Bool.not_eq_true'] at h
  obtain ⟨hi, h1, h2⟩ := h
  refine ⟨?_, ?_⟩
  · rw [Array.getD_eq_getD_getElem?] at h1
    cases hl : listed[i]? with
    | none => rw [hl] at h1; simp at h1
    | some b => rw [hl] at h1; simp at h1; rw [h1]
  · cases ho : ops[i]? with
    | none => rw [ho] at h2; simp at h2
    | some o =>
      refine ⟨o, rfl, fun e he hb => ?_⟩
      rw [ho] at h2
      simp only [Option.map_some, Option.getD_some, Array.all_eq_true', Bool.or_eq_true, Bool.not_eq_true'] at h2
      have := h2 e he
      rw [hb] at this
      simp only [Bool.true_eq_false, false_or] at this
      rw [Array.getD_eq_getD_getElem?] at this
      cases hl : listed[e.on]? with
      | none => rw [hl] at this; simp at this
      | some b => rw [hl] at this; simp at this; rw [this]

theorem count_set {l : List Bool} {i : Nat} (h : l[i]? = some false) : (l.set i true).count false + 1 = l.count false := by
  induction l generalizing i with
  | nil => simp at h
  | cons b l ih =>
    cases i with
    | zero => simp at h; subst h; simp
    | succ i =>
      simp at h
      have := ih h
      simp only [List.set_cons_succ, List.count_cons]
      omega

theorem wpAny_inv (I : Array Bool → Act → World → Prop)
    (hs : ∀ listed a w i, I listed a w → i ∈ Region.ready .any ops listed → wpOp P ops Q i (I (listed.setIfInBounds i true)) a w)
    (hd : ∀ listed a w, I listed a w → Region.ready .any ops listed = [] → Q .normal a w) :
    ∀ (fuel : Nat) (listed : Array Bool) (a : Act) (w : World), listed.toList.count false ≤ fuel → I listed a w → wpAny P .any ops Q fuel listed a w := by
  intro fuel
  induction fuel with
  | zero =>
    intro listed a w hc hi
    have hr : Region.ready .any ops listed = [] := by
      apply List.eq_nil_iff_forall_not_mem.2
      intro i hmem
      have h1 := (mem_ready hmem).1
      have : false ∈ listed.toList := by
        rw [← Array.getElem?_toList] at h1
        exact List.mem_of_getElem? h1
      have := List.count_pos_iff.2 this
      omega
    exact ⟨hr, hd _ _ _ hi hr⟩
  | succ fuel ih =>
    intro listed a w hc hi
    refine ⟨fun hr => hd _ _ _ hi hr, fun i hmem => ?_⟩
    refine wpOp_mono (fun a' w' h' => ih _ a' w' ?_ h') (hs _ _ _ _ hi hmem)
    have h1 := (mem_ready hmem).1
    rw [← Array.getElem?_toList] at h1
    have := count_set h1
    rw [Array.toList_setIfInBounds]
    omega

theorem wp_region_inv {id : Nat} {a : Act} {w : World} (hm : P.follows .mixedOrders = true) (I : Array Bool → Act → World → Prop)
    (h0 : I (Array.replicate ops.size false) a w.drew)
    (hs : ∀ listed a w i, I listed a w → i ∈ Region.ready .any ops listed → wpOp P ops Q i (I (listed.setIfInBounds i true)) a w)
    (hd : ∀ listed a w, I listed a w → Region.ready .any ops listed = [] → Q .normal a w) : (Code.region id ops true).wp P Q a w :=
  wp_region_any hm (wpAny_inv I hs hd _ _ _ _ (by simp) h0)
end
section
variable {P : Program} {ops : Array Oper} {Q : Exit → Act → World → Prop}
/-- Outside the region's own slots the frame is as it was. -/
structure SameFrame (slots : List Nat) (a a' : Act) : Prop where
  defers : a'.defers = a.defers
  size : a'.tmps.size = a.tmps.size
  rest : ∀ s, s ∉ slots → a'.tmps[s]? = a.tmps[s]?
theorem SameFrame.refl (slots : List Nat) (a : Act) : SameFrame slots a a := ⟨rfl, rfl, fun _ _ => rfl⟩
theorem SameFrame.put {slots : List Nat} {a a' : Act} (h : SameFrame slots a a') {d : Nat} (hd : d ∈ slots) (v : Value) : SameFrame slots a (a'.put (some d) v) :=
  ⟨h.defers, by simp [Act.put, h.size], fun s hs => by
    have : d ≠ s := fun e => hs (e ▸ hd)
    simp only [Act.put, Array.getElem?_setIfInBounds_ne this]
    exact h.rest s hs⟩
theorem nodup_inj {l : List Nat} (h : l.Nodup) {i j d : Nat} (hi : l[i]? = some d) (hj : l[j]? = some d) : i = j := by
  have hi' : i < l.length := by
    rcases Nat.lt_or_ge i l.length with h | h
    · exact h
    · rw [List.getElem?_eq_none h] at hi; cases hi
  exact (List.getElem?_inj hi' h).1 (hi.trans hj.symm)
/-- A region whose operations only make memory, each with a fact on its value that stays true as memory grows; the last operation, behind all others, ends it. -/
theorem wp_region_grow {id : Nat} {a : Act} {w : World} (hm : P.follows .mixedOrders = true) (slots : List Nat) (VF : Nat → Value → World → Prop)
    (hsz : ops.size = slots.length + 1) (hnd : slots.Nodup)
    (hdst : ∀ j d : Nat, slots[j]? = some d → (ops[j]?).map (fun o : Oper => (o.dst, o.guard)) = some (some d, none))
    (hord : ∀ (j : Nat) (o : Oper), ops[j]? = some o → ∀ e ∈ o.after, e.on < j)
    (hin : ∀ d ∈ slots, d < a.tmps.size)
    (mono : ∀ j v w w', Below w.heap.size w w' → VF j v w → VF j v w')
    (hstep : ∀ (j : Nat) (o : Oper), j < slots.length → ops[j]? = some o → ∀ a' w', SameFrame slots a a' → Below w.heap.size w w' →
      (∀ e ∈ o.after, Region.binds .any e = true → ∀ d, slots[e.on]? = some d → ∃ v, a'.tmps[d]? = some v ∧ VF e.on v w') →
      o.wp P a' w' (fun a'' w'' => ∃ v, a'' = a'.put o.dst v ∧ VF j v w'' ∧ Below w'.heap.size w' w'') Q)
    (hall : ∀ o, ops[slots.length]? = some o → o.guard = none ∧ ∀ j, j < slots.length → ∃ e ∈ o.after, e.on = j ∧ Region.binds .any e = true)
    (hlast : ∀ o, ops[slots.length]? = some o → ∀ a' w', SameFrame slots a a' → Below w.heap.size w w' → (∀ j d : Nat, slots[j]? = some d → ∃ v, a'.tmps[d]? = some v ∧ VF j v w') →
      o.wp P a' w' (Q .normal) Q) : (Code.region id ops true).wp P Q a w := by
  refine wp_region_inv hm (fun listed a' w' => listed.size = ops.size ∧ ((listed[slots.length]? = some false ∧ SameFrame slots a a' ∧ Below w.heap.size w w' ∧ ∀ j d, slots[j]? = some d → listed[j]? = some true → ∃ v, a'.tmps[d]? = some v ∧ VF j v w') ∨ ((∀ j, j < ops.size → listed[j]? = some true) ∧ Q .normal a' w'))) ?_ ?_ ?_
  · refine ⟨by simp, .inl ⟨?_, SameFrame.refl _ _, (Below.refl _ _).drew, fun j d hj hl => ?_⟩⟩
    · rw [Array.getElem?_replicate, if_pos (by omega)]
    · rw [Array.getElem?_replicate] at hl; split at hl <;> simp at hl
  · rintro listed a' w' i ⟨hls, hI⟩ hi
    obtain ⟨hl, o, ho, hpre⟩ := mem_ready hi
    have hi' : i < ops.size := by
      rcases Nat.lt_or_ge i ops.size with h | h
      · exact h
      · rw [Array.getElem?_eq_none h] at ho; cases ho
    rcases hI with ⟨hlf, hf, hb, hv⟩ | ⟨hlt, _⟩
    · by_cases hij : i = slots.length
      · subst hij
        obtain ⟨hg, hallp⟩ := hall o ho
        have hfacts : ∀ j d, slots[j]? = some d → ∃ v, a'.tmps[d]? = some v ∧ VF j v w' := fun j d hj => by
          have hjl : j < slots.length := by
            rcases Nat.lt_or_ge j slots.length with h | h
            · exact h
            · rw [List.getElem?_eq_none h] at hj; cases hj
          obtain ⟨e, he, rfl, hbe⟩ := hallp j hjl
          exact hv _ d hj (hpre e he hbe)
        have := hlast o ho a' w' hf hb hfacts
        unfold wpOp
        simp only [ho, Region.wanted, hg, if_true]
        refine .inl (Oper.wp_mono (fun a'' w'' hq => ⟨by simp [hls], .inr ⟨fun j hj => ?_, hq⟩⟩) this)
        by_cases hjs : j = slots.length
        · subst hjs
          rw [Array.getElem?_setIfInBounds_self_of_lt (by omega)]
        · rw [Array.getElem?_setIfInBounds_ne (fun e => hjs e.symm)]
          obtain ⟨e, he, rfl, hbe⟩ := hallp j (by omega)
          exact hpre e he hbe
      · have hil : i < slots.length := by omega
        obtain ⟨d, hd⟩ : ∃ d, slots[i]? = some d := ⟨_, List.getElem?_eq_getElem hil⟩
        have hod := hdst i d hd
        rw [ho] at hod
        simp only [Option.map_some, Option.some.injEq, Prod.mk.injEq] at hod
        obtain ⟨hod, hg⟩ := hod
        have hdm : d ∈ slots := List.mem_of_getElem? hd
        have := hstep i o hil ho a' w' hf hb (fun e he hbe d' hd' => hv _ d' hd' (hpre e he hbe))
        unfold wpOp
        simp only [ho, Region.wanted, hg, if_true]
        refine .inl (Oper.wp_mono ?_ this)
        rintro a'' w'' ⟨v, rfl, hvf, hb2⟩
        rw [hod]
        refine ⟨by simp [hls], .inl ⟨?_, hf.put hdm v, hb.trans (hb2.mono hb.size), fun j d' hj hlj => ?_⟩⟩
        · rw [Array.getElem?_setIfInBounds_ne (by omega)]; exact hlf
        · by_cases hji : j = i
          · subst hji
            rw [hd] at hj
            cases hj
            refine ⟨v, ?_, hvf⟩
            simp only [Act.put]
            rw [Array.getElem?_setIfInBounds_self_of_lt (by rw [hf.size]; exact hin _ hdm)]
          · rw [Array.getElem?_setIfInBounds_ne (fun e => hji e.symm)] at hlj
            obtain ⟨v', h1, h2⟩ := hv j d' hj hlj
            refine ⟨v', ?_, mono _ _ _ _ hb2 h2⟩
            have hne : d ≠ d' := fun e => by
              subst e
              exact hji (nodup_inj hnd hj hd)
            simp only [Act.put]
            rw [Array.getElem?_setIfInBounds_ne hne]
            exact h1
    · rw [hlt i hi'] at hl
      cases hl
  · rintro listed a' w' ⟨hls, hI⟩ hr
    rcases hI with ⟨hlf, hf, hb, hv⟩ | ⟨_, hq⟩
    · exfalso
      have key : ∀ j, j < ops.size → listed[j]? = some true := by
        intro j
        induction j using Nat.strongRecOn with
        | _ j ih =>
          intro hj
          have hjl : j < listed.size := by omega
          cases hlj : listed[j] with
          | true => rw [Array.getElem?_eq_getElem hjl, hlj]
          | false =>
            exfalso
            have : j ∈ Region.ready .any ops listed := by
              unfold Region.ready
              simp only [List.mem_filter, List.mem_range, Bool.and_eq_true, Bool.not_eq_true']
              refine ⟨hj, ?_, ?_⟩
              · rw [Array.getD_eq_getD_getElem?, Array.getElem?_eq_getElem hjl, hlj]; rfl
              · rw [Array.getElem?_eq_getElem hj]
                simp only [Option.map_some, Option.getD_some, Array.all_eq_true', Bool.or_eq_true, Bool.not_eq_true']
                intro e he
                have hlt := hord j _ (Array.getElem?_eq_getElem hj) e he
                refine .inr ?_
                rw [Array.getD_eq_getD_getElem?, ih e.on hlt (by omega)]; rfl
            rw [hr] at this
            cases this
      rw [key slots.length (by omega)] at hlf
      cases hlf
    · exact hq
end

section
variable {P : Program} {ops : Array Oper} {Q : Exit → Act → World → Prop}
theorem grow_dst {slots : List Nat} (h : ((ops.toList.map fun o => (o.dst, o.guard)).take slots.length) = slots.map fun d => (some d, none)) :
    ∀ j d : Nat, slots[j]? = some d → (ops[j]?).map (fun o : Oper => (o.dst, o.guard)) = some (some d, none) := by
  intro j d hj
  have hjl : j < slots.length := by
    rcases Nat.lt_or_ge j slots.length with h | h
    · exact h
    · rw [List.getElem?_eq_none h] at hj; cases hj
  have h1 := congrArg (fun l => l[j]?) h
  simp only [List.getElem?_take, hjl, if_true, List.getElem?_map, hj, Option.map_some] at h1
  rw [← Array.getElem?_toList]
  exact h1
theorem grow_in {slots : List Nat} {a : Act} (n : Nat) (hn : a.tmps.size = n) (h : slots.all (fun d => decide (d < n)) = true) : ∀ d ∈ slots, d < a.tmps.size := by
  intro d hd
  rw [hn]
  exact of_decide_eq_true (List.all_eq_true.1 h d hd)
theorem grow_ord (h : ((List.range ops.size).all fun j => ((ops[j]?).map fun o => o.after.toList.all fun e => decide (e.on < j)).getD true) = true) :
    ∀ (j : Nat) (o : Oper), ops[j]? = some o → ∀ e ∈ o.after, e.on < j := by
  intro j o ho e he
  have hj : j < ops.size := by
    rcases Nat.lt_or_ge j ops.size with h | h
    · exact h
    · rw [Array.getElem?_eq_none h] at ho; cases ho
  have h1 := List.all_eq_true.1 h j (List.mem_range.2 hj)
  rw [ho] at h1
  simp only [Option.map_some, Option.getD_some, List.all_eq_true, decide_eq_true_eq] at h1
  exact h1 e (Array.mem_toList_iff.2 he)
theorem grow_all {n : Nat} (h : ((ops[n]?).map fun o => o.guard.isNone && (List.range n).all fun j => o.after.toList.any fun e => (e.on == j) && Region.binds .any e) = some true) :
    ∀ o, ops[n]? = some o → o.guard = none ∧ ∀ j, j < n → ∃ e ∈ o.after, e.on = j ∧ Region.binds .any e = true := by
  intro o ho
  rw [ho] at h
  simp only [Option.map_some, Option.some.injEq, Bool.and_eq_true, Option.isNone_iff_eq_none, List.all_eq_true, List.mem_range, List.any_eq_true, beq_iff_eq] at h
  refine ⟨h.1, fun j hj => ?_⟩
  obtain ⟨e, he, h1, h2⟩ := h.2 j hj
  exact ⟨e, Array.mem_toList_iff.1 he, h1, h2⟩
end
end Go.Proofs.YtfaocjcpnjmfiaaGreatDoor
