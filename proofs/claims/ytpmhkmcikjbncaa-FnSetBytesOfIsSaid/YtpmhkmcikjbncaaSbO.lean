/-
  The thin package's SetBytesOf, which recovers.
-/
import Derived.Test.YtpmhkmcikjbncaaSbZ
namespace Go.Proofs.Ytpmhkmcikjbncaa
open Go.RowKit
set_option linter.unusedVariables false
set_option linter.unusedSimpArgs false
set_option maxRecDepth 100000
theorem catchSb_panic (g0 g1 g2 : Nat) (z : N4) (a2 : Value) (u : TypeId) (pv : Value) (older : List PanicEntry) (w : World) (h0 : At4 w g0 0 z) (h1 : w.there g1 0 4) (h2 : w.cell? ⟨g2, 0, none⟩ = some a2) (z2 : w.frozen? ⟨g2, 0, none⟩ = false) (hne : ¬ g1 = g2) :
    CallsD Try.prog 52 #[.pointer (some ⟨g0, 0, none⟩), .pointer (some ⟨g1, 0, none⟩), .pointer (some ⟨g2, 0, none⟩)] (.panicking ({ v := .iface u pv, recovered := false } :: older)) w fun e u' w' =>
      e = .returned (.tuple #[]) ∧ u' = .panicking ({ v := .iface u pv, recovered := true } :: older) ∧ w' = (put4 w g1 0 z).setCell ⟨g2, 0, none⟩ (.bool true) := by
  have hne' : ¬ g2 = g1 := fun e => hne e.symm
  obtain ⟨q0, q1, q2, q3⟩ := h0
  obtain ⟨i0, j0⟩ := h1 0 (by omega)
  obtain ⟨i1, j1⟩ := h1 1 (by omega)
  obtain ⟨i2, j2⟩ := h1 2 (by omega)
  obtain ⟨i3, j3⟩ := h1 3 (by omega)
  obtain ⟨o0, p0⟩ := Option.isSome_iff_exists.1 i0
  obtain ⟨o1, p1⟩ := Option.isSome_iff_exists.1 i1
  obtain ⟨o2, p2⟩ := Option.isSome_iff_exists.1 i2
  obtain ⟨o3, p3⟩ := Option.isSome_iff_exists.1 i3
  clear i0 i1 i2 i3 h1
  refine callsD_of_wpS Try.func52 rfl fun c₀ cs hu => ?_
  apply wpS_seq
  apply wpS_region
  simp [wpOpsS, go_sem, recoverD, hu, Try.ntmps52, Exit.thenS]
  refine wpS_cond (t := true) (by simp [Act.eval, Array.replicate]) ?_
  simp only [if_true]
  apply wpS_region
  simp [wpOpsS, go_sem, q0, q1, q2, q3, p0, p1, p2, p3, j0, j1, j2, j3, h2, z2, hne, hne', bodyPostS, results, Try.results52]
  rfl
theorem catchSb_idle (p q r : Value) (w : World) :
    CallsD Try.prog 52 #[p, q, r] .returning w fun e u' w' => e = .returned (.tuple #[]) ∧ u' = .returning ∧ w' = w := by
  refine callsD_of_wpS Try.func52 rfl fun c₀ cs hu => ?_
  apply wpS_seq
  apply wpS_region
  simp [wpOpsS, go_sem, recoverD, hu, Try.ntmps52, Exit.thenS]
  refine wpS_cond (t := false) (by simp [Act.eval, Array.replicate]) ?_
  simp only [Bool.false_eq_true, if_false]
  refine wpS_of_wp (wp_skip ?_)
  cases c₀
  simp_all [bodyPostS, results, Try.results52]
theorem there4_at {w : World} {g : Nat} (h : w.there g 0 4) : ∃ a b c d, w.cell? ⟨g, 0, none⟩ = some a ∧ w.cell? ⟨g, 1, none⟩ = some b ∧ w.cell? ⟨g, 2, none⟩ = some c ∧ w.cell? ⟨g, 3, none⟩ = some d := by
  obtain ⟨o0, p0⟩ := Option.isSome_iff_exists.1 (h 0 (by omega)).1
  obtain ⟨o1, p1⟩ := Option.isSome_iff_exists.1 (h 1 (by omega)).1
  obtain ⟨o2, p2⟩ := Option.isSome_iff_exists.1 (h 2 (by omega)).1
  obtain ⟨o3, p3⟩ := Option.isSome_iff_exists.1 (h 3 (by omega)).1
  exact ⟨o0, o1, o2, o3, p0, p1, p2, p3⟩
theorem own_short {w : World} {base e : Nat} {v : Value} {l : List UInt8} (h : w.ownsRow base e 1 v l.length (Lib.byteCells l)) : ∃ A cap, v = .slice A l.length cap ∧ (A = none → l.length = 0) := by
  rcases h.2 with ⟨h1, hn⟩ | ⟨g, cap, cur, h1, _⟩
  · exact ⟨none, 0, by rw [h1, hn], fun _ => hn⟩
  · exact ⟨_, cap, h1, fun e => by cases e⟩
theorem sbOf_after (w w3 w4 : World) (z : N4) {a2 : Value} (B1 : w3.there (w.heap.size + 1) 0 4) (B2 : w3.cell? ⟨w.heap.size + 2, 0, none⟩ = some a2) (hbw : Below w.heap.size w w3) (hw : w4 = (put4 w3 (w.heap.size + 1) 0 z).setCell ⟨w.heap.size + 2, 0, none⟩ (.bool true)) :
    w4.cell? ⟨w.heap.size + 1, 0, none⟩ = some (V z.a) ∧ w4.cell? ⟨w.heap.size + 1, 1, none⟩ = some (V z.b) ∧ w4.cell? ⟨w.heap.size + 1, 2, none⟩ = some (V z.c) ∧ w4.cell? ⟨w.heap.size + 1, 3, none⟩ = some (V z.d) ∧ w4.cell? ⟨w.heap.size + 2, 0, none⟩ = some (.bool true) ∧ Below w.heap.size w w4 := by
  obtain ⟨a, b, c, d, p0, p1, p2, p3⟩ := there4_at B1
  subst hw
  refine ⟨?_, ?_, ?_, ?_, ?_, bel_set (put4_bel hbw (by omega)) _ (by simp) _⟩
  all_goals simp [put4, go_sem, p0, p1, p2, p3, B2]
set_option maxHeartbeats 2000000 in
theorem implSbOf_short (k : Nat) (z : N4) (v : Value) (l : List UInt8) (w : World) (hk1 : 1 ≤ k) (hk2 : k ≤ 32) (hv : SlB w v l) (hl : l.length < k) : Calls Try.prog 32 #[.int .i64 (k : Int), z.v, v] w fun e w' => e = .returned (.tuple #[z.v, .bool true]) ∧ Below w.heap.size w w' := by
  have hmf : ∀ (fn : Fn) (first cap : Array Value) (w : World), (Instr.makeFunc fn first cap).run Try.prog w = .ok (.func fn first cap) w := fun _ _ _ _ => rfl
  have FEW : Hid (k ≤ 16 → ∀ B A n cap w, At4 w B 0 z → Free4 w B 0 → w.heap.size ≤ w.heap.size → n < k → (A = none → n = 0) → ∀ base, base ≤ B → Calls Try.prog 53 #[.pointer (some ⟨B, 0, none⟩), .int .i64 (k : Int), .slice A n cap] w fun e w' => (∃ u, e = .panicked [{ v := .iface Try.prog.rt.boundsError u, recovered := false }]) ∧ Below base w w') := fun hk B A n cap w h1 h2 _ h3 h4 base h5 => setFew_short base k B 0 z A n cap w hk1 hk h1 h2 h5 h3 h4
  have MANY : Hid (16 < k → ∀ B A n cap w, At4 w B 0 z → Free4 w B 0 → w.heap.size ≤ w.heap.size → n < k → (A = none → n = 0) → ∀ base, base ≤ B → Calls Try.prog 54 #[.pointer (some ⟨B, 0, none⟩), .int .i64 (k : Int), .slice A n cap] w fun e w' => (∃ u, e = .panicked [{ v := .iface Try.prog.rt.boundsError u, recovered := false }]) ∧ Below base w w') := fun hk B A n cap w h1 h2 _ h3 h4 base h5 => setMany_short base k B 0 z A n cap w hk hk2 h1 h2 h5 h3 h4
  have hc16 : (decide ((k : Int) ≤ 16) = true ∧ k ≤ 16) ∨ (decide ((k : Int) ≤ 16) = false ∧ 16 < k) := by
    rcases Nat.lt_or_ge 16 k with h | h
    · exact .inr ⟨decide_eq_false (by omega), h⟩
    · exact .inl ⟨decide_eq_true (by omega), h⟩
  go_enter_defers Try.func32, Try.ntmps32
  go_wp2_with fail
  refine (intOf_any z _).mono ?_
  rintro e w1 ⟨B, rfl, m⟩
  have hbox := At4.bel (c := w.heap.size) (o := 0) (x := z) ⟨by simp [go_sem], by simp [go_sem], by simp [go_sem], by simp [go_sem]⟩ m.bel
  have hr1 : w1.there (w.heap.size + 1) 0 4 := there_bel (w := ((w.alloc (.cells #[V z.a, V z.b, V z.c, V z.d] 24)).alloc (.cells #[.int .u64 0, .int .u64 0, .int .u64 0, .int .u64 0] 24)).alloc (.cells #[.bool false] 4)) (World.there_alloc (there_new1 w (.cells #[V z.a, V z.b, V z.c, V z.d] 24) 24 #[.int .u64 0, .int .u64 0, .int .u64 0, .int .u64 0] 4 (by simp)) _) (by omega) m.bel
  have hr2 : w1.cell? ⟨w.heap.size + 2, 0, none⟩ = some (.bool false) := bel_cell m.bel (by simp [go_sem])
  have hf2 : w1.frozen? ⟨w.heap.size + 2, 0, none⟩ = false := (m.bel.frozen (p := ⟨w.heap.size + 2, 0, none⟩) (by simp)).trans (by simp [go_sem])
  have hbel1 : Below w.heap.size w w1 := bel_trans (bel_alloc (bel_alloc (bel_alloc (bel_refl w) _) _) _) m.bel
  have hge := m.ge
  simp at hge
  have hBl := m.at4.lt
  have H0 : Hid (At4 w1 w.heap.size 0 z) := hbox
  have HR1 := Lib.hid hr1
  have HR2 := Lib.hid hr2
  have HF2 := Lib.hid hf2
  obtain ⟨q0, q1, q2, q3⟩ := hbox
  clear hr1 hr2 hf2
  rcases hc16 with ⟨hd, hk⟩ | ⟨hd, hk⟩
  all_goals
    go_wp2_with (first
      | (go_at_call 37; refine (copied_any v l _ (hv.bel hbel1) (by omega)).mono ?_; rintro e w2 ⟨v2, rfl, hown, hb2⟩; obtain ⟨A, cap, rfl, hnil⟩ := own_short hown; clear hown)
      | (go_at_call 53; refine (FEW.out hk B A l.length cap _ (m.at4.bel hb2) (m.free.bel hBl hb2) (Nat.le_refl _) hl hnil (w.heap.size + 3) (by omega)).mono ?_; rintro e w3 ⟨⟨u, rfl⟩, hb3⟩)
      | (go_at_call 54; refine (MANY.out hk B A l.length cap _ (m.at4.bel hb2) (m.free.bel hBl hb2) (Nat.le_refl _) hl hnil (w.heap.size + 3) (by omega)).mono ?_; rintro e w3 ⟨⟨u, rfl⟩, hb3⟩))
    have B0 := (H0.out.bel hb2).bel' hb3 (by omega)
    have B1 := there_keep (there_bel HR1.out (by omega) hb2) hb3 (by omega)
    have B2 := (hb3.cell (p := ⟨w.heap.size + 2, 0, none⟩) (by simp)).trans (bel_cell hb2 HR2.out)
    have B3 := (hb3.frozen (p := ⟨w.heap.size + 2, 0, none⟩) (by simp)).trans ((hb2.frozen (p := ⟨w.heap.size + 2, 0, none⟩) (World.block_lt_of_cell? _ _ HR2.out)).trans HF2.out)
    have hbw := (bel_trans hbel1 hb2).trans (hb3.mono (by omega))
    refine leaves_cons (f := 52) (args := #[.pointer (some ⟨w.heap.size, 0, none⟩), .pointer (some ⟨w.heap.size + 1, 0, none⟩), .pointer (some ⟨w.heap.size + 2, 0, none⟩)]) (by simp) (by simp [go_sem]) ?_
    refine (catchSb_panic w.heap.size (w.heap.size + 1) (w.heap.size + 2) z _ _ _ [] _ B0 B1 B2 B3 (by omega)).mono ?_
    rintro e u' w4 ⟨rfl, rfl, hw⟩
    obtain ⟨k0, k1, k2, k3, k4, hbel⟩ := sbOf_after w w3 w4 z B1 B2 hbw hw
    clear hw hb3 hb2 hbw B0 B1 B2 B3 m
    have e11 : w.heap.size + 1 + 1 = w.heap.size + 2 := rfl
    simp [Leaves, settle, results, Try.results32, go_sem, k0, k1, k2, k3, k4, e11]
    exact hbel
theorem sbOf_done (w w3 w4 : World) (z : N4) {a2 : Value} (B1 : w3.there (w.heap.size + 1) 0 4) (B2 : w3.cell? ⟨w.heap.size + 2, 0, none⟩ = some a2) (hbw : Below w.heap.size w w3) (hw : w4 = (w3.setCells (w.heap.size + 1) 0 [V z.a, V z.b, V z.c, V z.d]).setCell ⟨w.heap.size + 2, 0, none⟩ (.bool false)) :
    w4.cell? ⟨w.heap.size + 1, 0, none⟩ = some (V z.a) ∧ w4.cell? ⟨w.heap.size + 1, 1, none⟩ = some (V z.b) ∧ w4.cell? ⟨w.heap.size + 1, 2, none⟩ = some (V z.c) ∧ w4.cell? ⟨w.heap.size + 1, 3, none⟩ = some (V z.d) ∧ w4.cell? ⟨w.heap.size + 2, 0, none⟩ = some (.bool false) ∧ Below w.heap.size w w4 := by
  have e : w3.setCells (w.heap.size + 1) 0 [V z.a, V z.b, V z.c, V z.d] = put4 w3 (w.heap.size + 1) 0 z := rfl
  rw [e] at hw
  obtain ⟨a, b, c, d, p0, p1, p2, p3⟩ := there4_at B1
  subst hw
  refine ⟨?_, ?_, ?_, ?_, ?_, bel_set (put4_bel hbw (by omega)) _ (by simp) _⟩
  all_goals simp [put4, go_sem, p0, p1, p2, p3, B2]
theorem sbOf_keep (w w1 w2 w3 w4 : World) {B : Nat} {y : N4} {a2 : Value} (hge : w.heap.size + 1 + 1 + 1 ≤ B) (hBl : B < w1.heap.size) (h1 : w1.there (w.heap.size + 1) 0 4) (h2 : w1.cell? ⟨w.heap.size + 2, 0, none⟩ = some a2) (h3 : w1.frozen? ⟨w.heap.size + 2, 0, none⟩ = false)
    (b1 : Below w.heap.size w w1) (b2 : Below w1.heap.size w1 w2) (H : Left w2 B 0 y w3) (b4 : Below w3.heap.size w3 w4) :
    w4.there (w.heap.size + 1) 0 4 ∧ w4.cell? ⟨w.heap.size + 2, 0, none⟩ = some a2 ∧ w4.frozen? ⟨w.heap.size + 2, 0, none⟩ = false ∧ Below w.heap.size w w4 := by
  have s2 := b2.size
  have hA : Below (w.heap.size + 3) w1 w3 := by
    have k1 : Below (w.heap.size + 3) w1 w2 := b2.mono (by omega)
    have k2 : Below (w.heap.size + 3) w1 (put4 w2 B 0 y) := (((k1.setCell (p := ⟨B, 0, none⟩) (by show _ ≤ B; omega) _).setCell (p := ⟨B, 0 + 1, none⟩) (by show _ ≤ B; omega) _).setCell (p := ⟨B, 0 + 2, none⟩) (by show _ ≤ B; omega) _).setCell (p := ⟨B, 0 + 3, none⟩) (by show _ ≤ B; omega) _
    exact k2.trans (H.bel.mono (by omega))
  have hs3 := hA.size
  have hB : Below (w.heap.size + 3) w1 w4 := hA.trans (b4.mono (by omega))
  exact ⟨there_keep h1 hB (by omega), (hB.cell (p := ⟨w.heap.size + 2, 0, none⟩) (by simp)).trans h2, (hB.frozen (p := ⟨w.heap.size + 2, 0, none⟩) (by simp)).trans h3, b1.trans (hB.mono (by omega))⟩
theorem sbOf_far {w w4 : World} (y : N4) {a2 : Value} (hC : w4.cell? ⟨w.heap.size + 2, 0, none⟩ = some a2) (hF : w4.frozen? ⟨w.heap.size + 2, 0, none⟩ = false) :
    (w4.setCells (w.heap.size + 1) 0 [V y.a, V y.b, V y.c, V y.d]).cell? ⟨w.heap.size + 1 + 1, 0, none⟩ = some a2 ∧ (w4.setCells (w.heap.size + 1) 0 [V y.a, V y.b, V y.c, V y.d]).frozen? ⟨w.heap.size + 1 + 1, 0, none⟩ = false := by
  have e : w4.setCells (w.heap.size + 1) 0 [V y.a, V y.b, V y.c, V y.d] = put4 w4 (w.heap.size + 1) 0 y := rfl
  rw [e, put4_frozen, put4_cell _ _ _ _ _ _ (fun e => by omega)]
  exact ⟨hC, hF⟩
set_option maxHeartbeats 2000000 in
theorem implSbOf_long (k : Nat) (z : N4) (v : Value) (l : List UInt8) (w : World) (hk1 : 1 ≤ k) (hk2 : k ≤ 32) (hv : SlB w v l) (hl : k ≤ l.length) (hl2 : l.length ≤ 4294967296) : Calls Try.prog 32 #[.int .i64 (k : Int), z.v, v] w fun e w' => e = .returned (.tuple #[(ofN (Lib.beNat (l.take k))).v, .bool false]) ∧ Below w.heap.size w w' := by
  have hmf : ∀ (fn : Fn) (first cap : Array Value) (w : World), (Instr.makeFunc fn first cap).run Try.prog w = .ok (.func fn first cap) w := fun _ _ _ _ => rfl
  obtain ⟨y, hy⟩ : ∃ y, ofN (Lib.beNat (l.take k)) = y := ⟨_, rfl⟩
  rw [hy]
  have FEW : Hid (k ≤ 16 → ∀ B g cap w, At4 w B 0 z → Free4 w B 0 → BytesAt w g 0 l → l.length ≤ cap → g ≠ B → Calls Try.prog 53 #[.pointer (some ⟨B, 0, none⟩), .int .i64 (k : Int), .slice (some ⟨g, 0, none⟩) l.length cap] w fun e w' => e = .returned (.tuple #[]) ∧ Left w B 0 y w') := fun hk B g cap w h1 h2 h3 h4 h5 => by rw [← hy]; exact setFew_any k B 0 z g 0 l.length cap l w hk1 hk h1 h2 h3 rfl hl h4 h5
  have MANY : Hid (16 < k → ∀ B g cap w, At4 w B 0 z → Free4 w B 0 → BytesAt w g 0 l → l.length ≤ cap → g ≠ B → Calls Try.prog 54 #[.pointer (some ⟨B, 0, none⟩), .int .i64 (k : Int), .slice (some ⟨g, 0, none⟩) l.length cap] w fun e w' => e = .returned (.tuple #[]) ∧ Left w B 0 y w') := fun hk B g cap w h1 h2 h3 h4 h5 => by rw [← hy]; exact setMany_any k B 0 z g 0 l.length cap l w hk hk2 h1 h2 h3 rfl hl h4 h5
  have hc16 : (decide ((k : Int) ≤ 16) = true ∧ k ≤ 16) ∨ (decide ((k : Int) ≤ 16) = false ∧ 16 < k) := by
    rcases Nat.lt_or_ge 16 k with h | h
    · exact .inr ⟨decide_eq_false (by omega), h⟩
    · exact .inl ⟨decide_eq_true (by omega), h⟩
  clear hy
  go_enter_defers Try.func32, Try.ntmps32
  go_wp2_with fail
  refine (intOf_any z _).mono ?_
  rintro e w1 ⟨B, rfl, m⟩
  have hr1 : w1.there (w.heap.size + 1) 0 4 := there_bel (w := ((w.alloc (.cells #[V z.a, V z.b, V z.c, V z.d] 24)).alloc (.cells #[.int .u64 0, .int .u64 0, .int .u64 0, .int .u64 0] 24)).alloc (.cells #[.bool false] 4)) (World.there_alloc (there_new1 w (.cells #[V z.a, V z.b, V z.c, V z.d] 24) 24 #[.int .u64 0, .int .u64 0, .int .u64 0, .int .u64 0] 4 (by simp)) _) (by omega) m.bel
  have hr2 : w1.cell? ⟨w.heap.size + 2, 0, none⟩ = some (.bool false) := bel_cell m.bel (by simp [go_sem])
  have hf2 : w1.frozen? ⟨w.heap.size + 2, 0, none⟩ = false := (m.bel.frozen (p := ⟨w.heap.size + 2, 0, none⟩) (by simp)).trans (by simp [go_sem])
  have hbel1 : Below w.heap.size w w1 := bel_trans (bel_alloc (bel_alloc (bel_alloc (bel_refl w) _) _) _) m.bel
  have hge := m.ge
  simp at hge
  have hBl := m.at4.lt
  have HR1 := Lib.hid hr1
  have HR2 := Lib.hid hr2
  have HF2 := Lib.hid hf2
  clear hr1 hr2 hf2
  rcases hc16 with ⟨hd, hk⟩ | ⟨hd, hk⟩
  all_goals
    go_wp2_with (first
      | (go_at_call 37; refine (copied_any v l _ (hv.bel hbel1) hl2).mono ?_; rintro e w2 ⟨v2, rfl, hown, hb2⟩; obtain ⟨g, cap, rfl, hcap, hg1, hg2, hBy⟩ := (own_open hown).resolve_left (fun h => by have := congrArg List.length h.2; rw [List.length_nil] at this; omega); clear hown)
      | (go_at_call 53; refine (FEW.out hk B g cap _ (m.at4.bel hb2) (m.free.bel hBl hb2) hBy hcap (by omega)).mono ?_; rintro e w3 ⟨rfl, H⟩)
      | (go_at_call 54; refine (MANY.out hk B g cap _ (m.at4.bel hb2) (m.free.bel hBl hb2) hBy hcap (by omega)).mono ?_; rintro e w3 ⟨rfl, H⟩)
      | (go_at_call 49; refine (numOf_any B 0 y _ (H.atz (m.at4.bel hb2))).mono ?_; rintro e w4 ⟨rfl, hb4⟩; obtain ⟨hT, hC, hF, hbw⟩ := sbOf_keep w w1 w2 w3 w4 hge hBl HR1.out HR2.out HF2.out hbel1 hb2 H hb4; obtain ⟨hC5, hF5⟩ := sbOf_far y hC hF; have HT := Lib.hid hT; have HC4 := Lib.hid hC; have HBW := Lib.hid hbw; clear hT hC hF hbw m H hb4 hb2)
      | (show wpList _ _ _ (⟨none, Op.store 24 _ _, _, _, _, _⟩ :: _) _ _; refine wpList_store_mid (op := ⟨none, Op.store 24 (.tmp 6) (.tmp 25), _, _, _, _⟩) rfl 24 _ _ rfl (w.heap.size + 1) 0 [V y.a, V y.b, V y.c, V y.d].toArray rfl rfl HT.out (by kernel_rfl) (by simp [Value.oneCell']) ?_))
    refine leaves_cons (f := 52) (args := #[.pointer (some ⟨w.heap.size, 0, none⟩), .pointer (some ⟨w.heap.size + 1, 0, none⟩), .pointer (some ⟨w.heap.size + 2, 0, none⟩)]) (by simp) (by simp [go_sem]) ?_
    refine (catchSb_idle _ _ _ _).mono ?_
    rintro e u' w'' ⟨rfl, rfl, hw⟩
    obtain ⟨k0, k1, k2, k3, k4, hbel⟩ := sbOf_done w w4 w'' y HT.out HC4.out HBW.out hw
    clear hw hC5 hF5
    have e11 : w.heap.size + 1 + 1 = w.heap.size + 2 := rfl
    simp [Leaves, settle, results, Try.results32, go_sem, k0, k1, k2, k3, k4, e11]
    exact hbel
end Go.Proofs.Ytpmhkmcikjbncaa
