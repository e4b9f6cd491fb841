/-
  A region in whatever order, by one fact an operation: each fact names a slot and what the value there is good for.
-/
import Derived.Test.YtfaocjcpnjmfiaaGreatDoorDesk3
namespace Go.Proofs.YtfaocjcpnjmfiaaGreatDoor
open Go.RowKit
set_option linter.unusedVariables false
section
variable {P : Program} {ops : Array Oper} {Q : Exit → Act → World → Prop}
/-- Operation i is not behind operation j. -/
def Free (ops : Array Oper) (i j : Nat) : Prop := ∀ o, ops[i]? = some o → ∀ e ∈ o.after, Region.binds .any e = true → e.on ≠ j
theorem wp_region_all {id : Nat} {a : Act} {w : World} (hm : P.follows .mixedOrders = true) (G : Act → World → Prop) (F : Nat → Act → World → Prop)
    (hord : ∀ (j : Nat) (o : Oper), ops[j]? = some o → ∀ e ∈ o.after, Region.binds .any e = true → e.on < j)
    (h0 : G a w.drew)
    (hstep : ∀ (j : Nat) (o : Oper), ops[j]? = some o → ∀ a' w', G a' w' → (∀ e ∈ o.after, Region.binds .any e = true → F e.on a' w') →
      wpOp P ops Q j (fun a'' w'' => G a'' w'' ∧ F j a'' w'' ∧ ∀ i, i ≠ j → i < ops.size → Free ops i j → F i a' w' → F i a'' w'') a' w')
    (hend : ∀ a' w', G a' w' → (∀ j, j < ops.size → F j a' w') → Q .normal a' w') : (Code.region id ops true).wp P Q a w := by
  refine wp_region_inv hm (fun listed a' w' => listed.size = ops.size ∧ G a' w' ∧ (∀ j : Nat, listed[j]? = some true → F j a' w') ∧ (∀ (j : Nat) (o : Oper), listed[j]? = some true → ops[j]? = some o → ∀ e ∈ o.after, Region.binds .any e = true → listed[e.on]? = some true)) ?_ ?_ ?_
  · refine ⟨by simp, h0, fun j hj => ?_, fun j o hj => ?_⟩
    · rw [Array.getElem?_replicate] at hj; split at hj <;> simp at hj
    · rw [Array.getElem?_replicate] at hj; split at hj <;> simp at hj
  · rintro listed a' w' i ⟨hls, hG, hF, hP⟩ hi
    obtain ⟨hl, o, ho, hpre⟩ := mem_ready hi
    have hi' : i < ops.size := by
      rcases Nat.lt_or_ge i ops.size with h | h
      · exact h
      · rw [Array.getElem?_eq_none h] at ho; cases ho
    refine wpOp_mono (fun a'' w'' ⟨g, f, st⟩ => ?_) (hstep i o ho a' w' hG (fun e he hb => hF _ (hpre e he hb)))
    refine ⟨by simp [hls], g, fun j hj => ?_, fun j o' hj ho' e he hb => ?_⟩
    · by_cases hji : j = i
      · subst hji; exact f
      · rw [Array.getElem?_setIfInBounds_ne (fun e => hji e.symm)] at hj
        have hj' : j < ops.size := by
          rcases Nat.lt_or_ge j listed.size with h | h
          · omega
          · rw [Array.getElem?_eq_none h] at hj; cases hj
        refine st j hji hj' (fun o' ho' e he hb hej => ?_) (hF j hj)
        have := hP j o' hj ho' e he hb
        rw [hej, hl] at this
        cases this
    · by_cases hei : e.on = i
      · rw [hei, Array.getElem?_setIfInBounds_self_of_lt (by omega)]
      · rw [Array.getElem?_setIfInBounds_ne (fun e => hei e.symm)]
        by_cases hji : j = i
        · subst hji
          rw [ho] at ho'
          cases ho'
          exact hpre e he hb
        · rw [Array.getElem?_setIfInBounds_ne (fun e => hji e.symm)] at hj
          exact hP j o' hj ho' e he hb
  · rintro listed a' w' ⟨hls, hG, hF, hP⟩ hr
    have key : ∀ j, j < ops.size → listed[j]? = some true := by
      intro j
      induction j using Nat.strongRecOn with
      | _ j ih =>
        intro hj
        have hjl : j < listed.size := by omega
        cases hlj : listed[j] with
        | true => rw [Array.getElem?_eq_getElem hjl, hlj]
        | false =>
          exfalso
          have : j ∈ Region.ready .any ops listed := by
            unfold Region.ready
            simp only [List.mem_filter, List.mem_range, Bool.and_eq_true, Bool.not_eq_true']
            refine ⟨hj, ?_, ?_⟩
            · rw [Array.getD_eq_getD_getElem?, Array.getElem?_eq_getElem hjl, hlj]; rfl
            · rw [Array.getElem?_eq_getElem hj]
              simp only [Option.map_some, Option.getD_some, Array.all_eq_true', Bool.or_eq_true, Bool.not_eq_true']
              intro e he
              cases hb : Region.binds .any e with
              | false => exact .inl rfl
              | true =>
                have hlt := hord j _ (Array.getElem?_eq_getElem hj) e he hb
                refine .inr ?_
                rw [Array.getD_eq_getD_getElem?, ih e.on hlt (by omega)]; rfl
          rw [hr] at this
          cases this
    exact hend a' w' hG (fun j hj => hF j (key j hj))
theorem all_ord (h : ((List.range ops.size).all fun j => ((ops[j]?).map fun o => o.after.toList.all fun e => !Region.binds .any e || decide (e.on < j)).getD true) = true) :
    ∀ (j : Nat) (o : Oper), ops[j]? = some o → ∀ e ∈ o.after, Region.binds .any e = true → e.on < j := by
  intro j o ho e he hb
  have hj : j < ops.size := by
    rcases Nat.lt_or_ge j ops.size with h | h
    · exact h
    · rw [Array.getElem?_eq_none h] at ho; cases ho
  have h1 := List.all_eq_true.1 h j (List.mem_range.2 hj)
  rw [ho] at h1
  simp only [Option.map_some, Option.getD_some, List.all_eq_true, Bool.or_eq_true, Bool.not_eq_true', decide_eq_true_eq] at h1
  rcases h1 e (Array.mem_toList_iff.2 he) with h2 | h2
  · rw [hb] at h2; cases h2
  · exact h2

theorem setCells_size (w : World) (g k : Nat) (cs : List Value) : (w.setCells g k cs).heap.size = w.heap.size := by
  induction cs generalizing w k with
  | nil => rfl
  | cons v cs ih => exact (ih (w.setCell ⟨g, k, none⟩ v) (k + 1)).trans (by simp [World.setCell])
theorem setCells_bel' {a w : World} {n B o : Nat} {vs : List Value} (h : Below n a w) (hb : n ≤ B) : Below n a (w.setCells B o vs) := by
  induction vs generalizing o w with
  | nil => exact h
  | cons v vs ih => exact ih (h.setCell (p := ⟨B, o, none⟩) hb v)
theorem setCells_far (w : World) (g k : Nat) (cs : List Value) (b o : Nat) (hne : b ≠ g) : (w.setCells g k cs).cell? ⟨b, o, none⟩ = w.cell? ⟨b, o, none⟩ := by
  induction cs generalizing w k with
  | nil => rfl
  | cons v cs ih => exact (ih (w.setCell ⟨g, k, none⟩ v) (k + 1)).trans (World.cell?_setCell_other _ _ _ _ (fun e => by injection e with e; exact hne e.symm))
theorem setCells_frozen (w : World) (g k : Nat) (cs : List Value) (p : Addr) : (w.setCells g k cs).frozen? p = w.frozen? p := by
  induction cs generalizing w k with
  | nil => rfl
  | cons v cs ih => exact (ih (w.setCell ⟨g, k, none⟩ v) (k + 1)).trans (by simp [go_sem])
theorem rangeAt_bel {w w' : World} {g o : Nat} {cs : List Value} (h : w.rangeAt g o cs) (hb : Below w.heap.size w w') : w'.rangeAt g o cs := fun j v hj => bel_cell hb (h j v hj)
theorem rangeAt_far {w : World} {g o b k : Nat} {cs ds : List Value} (h : w.rangeAt g o cs) (hne : g ≠ b) : (w.setCells b k ds).rangeAt g o cs := fun j v hj => (setCells_far _ _ _ _ _ _ hne).trans (h j v hj)
theorem At4.setFar4 {w : World} {b o g k : Nat} {x : N4} {cs : List Value} (h : At4 w b o x) (hne : b ≠ g) : At4 (w.setCells g k cs) b o x :=
  ⟨(setCells_far _ _ _ _ _ _ hne).trans h.c0, (setCells_far _ _ _ _ _ _ hne).trans h.c1, (setCells_far _ _ _ _ _ _ hne).trans h.c2, (setCells_far _ _ _ _ _ _ hne).trans h.c3⟩
theorem At4.setNew {w : World} {g : Nat} {x : N4} (h : w.there g 0 4) : At4 (w.setCells g 0 [V x.a, V x.b, V x.c, V x.d]) g 0 x := by
  have k := World.rangeAt_setCells_same w g 0 [V x.a, V x.b, V x.c, V x.d] h
  exact ⟨k 0 _ rfl, k 1 _ rfl, k 2 _ rfl, k 3 _ rfl⟩

/-! ### facts on slots -/
/-- Operation i's fact: slot sl i holds a value of which VF i holds. -/
def FV (sl : Nat → Nat) (VF : Nat → Value → World → Prop) (i : Nat) (a : Act) (w : World) : Prop := ∃ v, a.tmps[sl i]? = some v ∧ VF i v w
theorem FV.get {sl : Nat → Nat} {VF : Nat → Value → World → Prop} {i d : Nat} {a : Act} {w : World} (h : FV sl VF i a w) (hs : sl i = d) : ∃ v, a.tmps[d]? = some v ∧ VF i v w := by subst hs; exact h
theorem getElem?_lt {α : Type} {l : Array α} {j : Nat} {o : α} (h : l[j]? = some o) : j < l.size := by
  rcases Nat.lt_or_ge j l.size with k | k
  · exact k
  · rw [Array.getElem?_eq_none k] at h; cases h
/-- Slots ps hold pointers to blocks of their own (where they hold pointers at all), each from base on, all apart. -/
def Apart (ps : List Nat) (base : Nat) (a : Act) (w : World) : Prop :=
  (∀ s ∈ ps, ∀ B o, a.tmps[s]? = some (.pointer (some ⟨B, o, none⟩)) → base ≤ B ∧ B < w.heap.size) ∧
  (∀ s ∈ ps, ∀ t ∈ ps, s ≠ t → ∀ B o C q, a.tmps[s]? = some (.pointer (some ⟨B, o, none⟩)) → a.tmps[t]? = some (.pointer (some ⟨C, q, none⟩)) → B ≠ C)
structure GA (slots ps : List Nat) (rs : List (Nat × Nat)) (base : Nat) (a0 : Act) (w0 : World) (a : Act) (w : World) : Prop where
  le : base ≤ w0.heap.size
  frame : SameFrame slots a0 a
  bel : Below base w0 w
  apart : Apart ps base a w
  rooms : ∀ p ∈ rs, 0 < p.2 ∧ w.there p.1 0 p.2
theorem GA.start' {slots : List Nat} {rs : List (Nat × Nat)} {base : Nat} {a0 : Act} {w0 : World} (h : base ≤ w0.heap.size) (hr : ∀ p ∈ rs, 0 < p.2 ∧ w0.there p.1 0 p.2) : GA slots [] rs base a0 w0 a0 w0.drew :=
  ⟨h, SameFrame.refl _ _, (Below.refl _ _).drew, ⟨(fun s hs => absurd hs (by simp)), (fun s hs => absurd hs (by simp))⟩, hr⟩
theorem GA.start {slots ps : List Nat} {a0 : Act} {w0 : World} (k : ∀ s ∈ ps, a0.tmps[s]? = some undef) : GA slots ps [] w0.heap.size a0 w0 a0 w0.drew := by
  refine ⟨Nat.le_refl _, SameFrame.refl _ _, (Below.refl _ _).drew, ⟨fun s hs B o e => ?_, fun s hs t ht hne B o C q e => ?_⟩, fun p hp => absurd hp (by simp)⟩
  · rw [k s hs] at e; cases e
  · rw [k s hs] at e; cases e
/-- A step that puts a value that is no new block into slot d, and only makes memory. -/
theorem GA.val {slots ps : List Nat} {rs : List (Nat × Nat)} {base : Nat} {a0 a : Act} {w0 w w' : World} {d : Nat} (h : GA slots ps rs base a0 w0 a w) (hd : d ∈ slots) (hps : d ∉ ps) (v : Value) (hb : Below w.heap.size w w') (hB : base ≤ w.heap.size) : GA slots ps rs base a0 w0 (a.put (some d) v) w' := by
  have e : ∀ s ∈ ps, (a.put (some d) v).tmps[s]? = a.tmps[s]? := fun s hs => by
    have : d ≠ s := fun e => hps (e ▸ hs)
    simp only [Act.put, Array.getElem?_setIfInBounds_ne this]
  refine ⟨h.le, h.frame.put hd v, h.bel.trans (hb.mono hB), ⟨fun s hs B o k => ?_, fun s hs t ht hne B o C q k1 k2 => ?_⟩, fun p hp => ⟨(h.rooms p hp).1, there_bel (h.rooms p hp).2 (h.rooms p hp).1 hb⟩⟩
  · rw [e s hs] at k
    have := h.apart.1 s hs B o k
    have := hb.size
    omega
  · rw [e s hs] at k1
    rw [e t ht] at k2
    exact h.apart.2 s hs t ht hne B o C q k1 k2
/-- A step that makes a new block and puts its pointer into slot d of ps. -/
theorem GA.alloc {slots ps : List Nat} {rs : List (Nat × Nat)} {base : Nat} {a0 a : Act} {w0 w : World} {d : Nat} (h : GA slots ps rs base a0 w0 a w) (hd : d ∈ slots) (ob : Obj) (hB : base ≤ w.heap.size) : GA slots ps rs base a0 w0 (a.put (some d) (.pointer (some ⟨w.heap.size, 0, none⟩))) (w.alloc ob) := by
  have e : ∀ s, s ≠ d → (a.put (some d) (.pointer (some ⟨w.heap.size, 0, none⟩))).tmps[s]? = a.tmps[s]? := fun s hs => by
    simp only [Act.put, Array.getElem?_setIfInBounds_ne (fun k => hs k.symm)]
  have e' : ∀ B o, (a.put (some d) (.pointer (some ⟨w.heap.size, 0, none⟩))).tmps[d]? = some (.pointer (some ⟨B, o, none⟩)) → B = w.heap.size := fun B o k => by
    simp only [Act.put, Array.getElem?_setIfInBounds] at k
    rw [if_pos trivial] at k
    split at k
    · cases k; rfl
    · cases k
  have hsz : (w.alloc ob).heap.size = w.heap.size + 1 := by simp
  refine ⟨h.le, h.frame.put hd _, h.bel.trans ((bel_alloc (bel_refl w) ob).mono hB), ⟨fun s hs B o k => ?_, fun s hs t ht hne B o C q k1 k2 => ?_⟩, fun p hp => ⟨(h.rooms p hp).1, there_bel (h.rooms p hp).2 (h.rooms p hp).1 (bel_alloc (bel_refl w) ob)⟩⟩
  · by_cases hs' : s = d
    · subst hs'; have := e' B o k; omega
    · rw [e s hs'] at k; have := h.apart.1 s hs B o k; omega
  · by_cases hs' : s = d
    · subst hs'
      have h1 := e' B o k1
      rw [e t (fun k => hne k.symm)] at k2
      have := h.apart.1 t ht C q k2
      omega
    · rw [e s hs'] at k1
      have h1 := h.apart.1 s hs B o k1
      by_cases ht' : t = d
      · subst ht'; have := e' C q k2; omega
      · rw [e t ht'] at k2
        exact h.apart.2 s hs t ht hne B o C q k1 k2
/-- A step that stores into a block from base on. -/
theorem GA.store {slots ps : List Nat} {rs : List (Nat × Nat)} {base : Nat} {a0 a : Act} {w0 w w' : World} (h : GA slots ps rs base a0 w0 a w) (hsz : w'.heap.size = w.heap.size) (hb : Below base w0 w') (ht : ∀ b n, w.there b 0 n → w'.there b 0 n) (v : Value) : GA slots ps rs base a0 w0 (a.put none v) w' :=
  ⟨h.le, ⟨h.frame.defers, h.frame.size, h.frame.rest⟩, hb, ⟨fun s hs B o k => by rw [hsz]; exact h.apart.1 s hs B o k, h.apart.2⟩, fun p hp => ⟨(h.rooms p hp).1, ht _ _ (h.rooms p hp).2⟩⟩
/-- A step that puts a value into slot d: its own fact, and the others' facts. -/
theorem FV.put_self {sl : Nat → Nat} {VF : Nat → Value → World → Prop} {j d : Nat} {a : Act} {w : World} {v : Value} (hj : sl j = d) (hd : d < a.tmps.size) (h : VF j v w) : FV sl VF j (a.put (some d) v) w := by
  subst hj
  exact ⟨v, by simp only [Act.put]; rw [Array.getElem?_setIfInBounds_self_of_lt hd], h⟩
theorem FV.put_other {sl : Nat → Nat} {VF : Nat → Value → World → Prop} {i d : Nat} {a : Act} {w w' : World} {v : Value} (h : FV sl VF i a w) (hne : d ≠ sl i) (hm : ∀ u, VF i u w → VF i u w') : FV sl VF i (a.put (some d) v) w' := by
  obtain ⟨u, h1, h2⟩ := h
  exact ⟨u, by simp only [Act.put, Array.getElem?_setIfInBounds_ne hne]; exact h1, hm u h2⟩
theorem FV.same {sl : Nat → Nat} {VF : Nat → Value → World → Prop} {i : Nat} {a : Act} {w w' : World} {v : Value} (h : FV sl VF i a w) (hm : ∀ u, a.tmps[sl i]? = some u → VF i u w → VF i u w') : FV sl VF i (a.put none v) w' := by
  obtain ⟨u, h1, h2⟩ := h
  exact ⟨u, h1, hm u h1 h2⟩
theorem wpOp_of {j : Nat} {o : Oper} {K : Act → World → Prop} {a : Act} {w : World} (ho : ops[j]? = some o) (hg : o.guard = none) (h : o.wp P a w K Q) : wpOp P ops Q j K a w := by
  unfold wpOp
  simp only [ho, Region.wanted, hg, if_true]
  exact .inl h
theorem wpOp_skip {j k : Nat} {o : Oper} {b : Bool} {K : Act → World → Prop} {a : Act} {w : World} (ho : ops[j]? = some o) (hg : o.guard = some (k, b)) (hy : yielded ops a.tmps k ≠ some b) (h : K (a.put o.dst undef) w) : wpOp P ops Q j K a w := by
  unfold wpOp
  simp only [ho, Region.wanted, hg]
  rw [if_neg (by simpa using hy)]
  exact h
theorem wpOp_want {j k : Nat} {o : Oper} {b : Bool} {K : Act → World → Prop} {a : Act} {w : World} (ho : ops[j]? = some o) (hg : o.guard = some (k, b)) (hy : yielded ops a.tmps k = some b) (h : o.wp P a w K Q) : wpOp P ops Q j K a w := by
  unfold wpOp
  simp only [ho, Region.wanted, hg]
  rw [if_pos (by simpa using hy)]
  exact .inl h
/-- No operation but j, and none that is not behind j, has its fact on slot d. -/
def lone (ops : Array Oper) (sl : Nat → Nat) (j d : Nat) : Bool :=
  (List.range ops.size).all fun i => i == j || sl i != d || ((ops[i]?).map fun o => o.after.toList.any fun e => Region.binds .any e && e.on == j).getD false
theorem lone_ne {sl : Nat → Nat} {j d : Nat} (h : lone ops sl j d = true) : ∀ i, i ≠ j → i < ops.size → Free ops i j → d ≠ sl i := by
  intro i hij hi hf e
  have h1 := List.all_eq_true.1 h i (List.mem_range.2 hi)
  simp only [Bool.or_eq_true, beq_iff_eq, bne_iff_ne, ne_eq] at h1
  rcases h1 with (h1 | h1) | h1
  · exact hij h1
  · exact h1 e.symm
  · rw [Array.getElem?_eq_getElem hi] at h1
    simp only [Option.map_some, Option.getD_some, List.any_eq_true, Bool.and_eq_true, beq_iff_eq] at h1
    obtain ⟨e', he', hb, hon⟩ := h1
    exact hf _ (Array.getElem?_eq_getElem hi) e' (Array.mem_toList_iff.1 he') hb hon
theorem all_val {slots ps : List Nat} {rs : List (Nat × Nat)} {sl : Nat → Nat} {VF : Nat → Value → World → Prop} {base : Nat} {a0 a : Act} {w0 w : World} {j d : Nat} {o : Oper} (ho : ops[j]? = some o) (hg : o.guard = none) (hdst : o.dst = some d)
    (hG : GA slots ps rs base a0 w0 a w) (hd : d ∈ slots) (hps : d ∉ ps) (hin : d < a0.tmps.size) (hj : sl j = d) (hl : lone ops sl j d = true)
    (mono : ∀ i u w w', Below w.heap.size w w' → VF i u w → VF i u w')
    (h : o.wp P a w (fun a'' w'' => ∃ v, a'' = a.put o.dst v ∧ VF j v w'' ∧ Below w.heap.size w w'') Q) :
    wpOp P ops Q j (fun a'' w'' => GA slots ps rs base a0 w0 a'' w'' ∧ FV sl VF j a'' w'' ∧ ∀ i, i ≠ j → i < ops.size → Free ops i j → FV sl VF i a w → FV sl VF i a'' w'') a w := by
  refine wpOp_of ho hg (Oper.wp_mono ?_ h)
  rintro a'' w'' ⟨v, rfl, hv, hb⟩
  rw [hdst]
  exact ⟨hG.val hd hps v hb (Nat.le_trans hG.le hG.bel.size), FV.put_self hj (by rw [hG.frame.size]; exact hin) hv, fun i hij hi hf h => h.put_other (lone_ne hl i hij hi hf) (fun u => mono i u w w'' hb)⟩
theorem all_alloc {slots ps : List Nat} {rs : List (Nat × Nat)} {sl : Nat → Nat} {VF : Nat → Value → World → Prop} {base : Nat} {a0 a : Act} {w0 w : World} {j d : Nat} {o : Oper} (ob : Obj) (ho : ops[j]? = some o) (hg : o.guard = none) (hdst : o.dst = some d)
    (hG : GA slots ps rs base a0 w0 a w) (hd : d ∈ slots) (hin : d < a0.tmps.size) (hj : sl j = d) (hl : lone ops sl j d = true)
    (mono : ∀ i u w w', Below w.heap.size w w' → VF i u w → VF i u w')
    (h : (execOp a.eval o).run P w = .ok (.value (.pointer (some ⟨w.heap.size, 0, none⟩))) (w.alloc ob)) (hv : VF j (.pointer (some ⟨w.heap.size, 0, none⟩)) (w.alloc ob)) :
    wpOp P ops Q j (fun a'' w'' => GA slots ps rs base a0 w0 a'' w'' ∧ FV sl VF j a'' w'' ∧ ∀ i, i ≠ j → i < ops.size → Free ops i j → FV sl VF i a w → FV sl VF i a'' w'') a w := by
  refine wpOp_of ho hg (Oper.wp_mono ?_ (step_val (R := fun v w'' => v = .pointer (some ⟨w.heap.size, 0, none⟩) ∧ w'' = w.alloc ob) h ⟨rfl, rfl⟩))
  rintro a'' w'' ⟨v, rfl, rfl, rfl⟩
  rw [hdst]
  have hb := bel_alloc (bel_refl w) ob
  exact ⟨hG.alloc hd ob (Nat.le_trans hG.le hG.bel.size), FV.put_self hj (by rw [hG.frame.size]; exact hin) hv, fun i hij hi hf h => h.put_other (lone_ne hl i hij hi hf) (fun u => mono i u w _ hb)⟩
/-- A store of a whole value through slot s. -/
theorem all_store {slots ps : List Nat} {rs : List (Nat × Nat)} {sl : Nat → Nat} {VF : Nat → Value → World → Prop} {base : Nat} {a0 a : Act} {w0 w : World} {j s : Nat} {o : Oper} (ty : TypeId) (p x : Operand) (hop : o.op = Op.store ty p x) (g k : Nat) (cs : List Value) (ho : ops[j]? = some o) (hg : o.guard = none) (hdst : o.dst = none)
    (hG : GA slots ps rs base a0 w0 a w) (hj : sl j = s) (hs : a.tmps[s]? = some (.pointer (some ⟨g, k, none⟩)))
    (hp : a.eval p = .pointer (some ⟨g, k, none⟩)) (hx : a.eval x = .agg cs.toArray) (hthere : w.there g k cs.length) (hge : base ≤ g) (hlen : (P.info? ty).map (·.size) = some cs.length)
    (hone : cs.toArray.all (·.oneCell') = true)
    (hv : VF j (.pointer (some ⟨g, k, none⟩)) (w.setCells g k cs))
    (hst : ∀ i u, i ≠ j → i < ops.size → a.tmps[sl i]? = some u → VF i u w → VF i u (w.setCells g k cs)) :
    wpOp P ops Q j (fun a'' w'' => GA slots ps rs base a0 w0 a'' w'' ∧ FV sl VF j a'' w'' ∧ ∀ i, i ≠ j → i < ops.size → Free ops i j → FV sl VF i a w → FV sl VF i a'' w'') a w := by
  subst hj
  refine wpOp_of ho hg (wp_store_mid ty p x hop g k cs.toArray hp hx (by simpa using hthere) (by simpa using hlen) hone ?_)
  rw [hdst]
  have hsz : (w.setCells g k cs).heap.size = w.heap.size := setCells_size w g k cs
  exact ⟨hG.store hsz (setCells_bel' hG.bel hge) (fun b n h => World.there_setCells h _ _ _) _, ⟨_, hs, hv⟩, fun i hij hi hf h => h.same (fun u hu hvu => hst i u hij hi hu hvu)⟩
end
end Go.Proofs.YtfaocjcpnjmfiaaGreatDoor
