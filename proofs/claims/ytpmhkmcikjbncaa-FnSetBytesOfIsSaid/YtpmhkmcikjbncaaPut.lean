/-
  Contracts of PutUint256: it writes all 32 bytes, and panics where there are less than 32; the thin package's call of it, which recovers.
-/
import Derived.Test.YtpmhkmcikjbncaaSsz
import Derived.Lib.BoundsPanic
import Derived.Defers
import Derived.Recover
namespace Go.Proofs.Ytpmhkmcikjbncaa
open Go.RowKit
set_option linter.unusedVariables false
set_option linter.unusedSimpArgs false
set_option maxRecDepth 100000
/-- A row whose first bytes are being written, the end from 32 on as it was. -/
structure Over (base : Nat) (w : World) (b o : Nat) (x : N4) (g n : Nat) (l rest : List UInt8) (W : World) : Prop where
  at4 : At4 W b o x
  here : W.there g 0 n
  row : W.rangeAt g 0 (Lib.byteCells l)
  tail : W.rangeAt g 32 (Lib.byteCells rest)
  bel : Below base w W
theorem Over.put {base : Nat} {w W : World} {b o g n : Nat} {x : N4} {l rest : List UInt8} (h : Over base w b o x g n l rest W) (hbg : b ≠ g) (hw : base ≤ w.heap.size) (hg : base ≤ g) (m : List UInt8) (hm : l.length + m.length ≤ 32) (hn : 32 ≤ n) (ob : Obj) :
    Over base w b o x g n (l ++ m) rest ((W.alloc ob).drew.setCells g l.length (Lib.byteCells m)) := by
  show Over base w b o x g n (l ++ m) rest ((W.drew.alloc ob).setCells g l.length (Lib.byteCells m))
  refine ⟨?_, ?_, ?_, ?_, ?_⟩
  · exact ((h.at4.drewN 1).alloc ob).setFar4 hbg
  · exact World.there_setCells (World.there_alloc ((World.there_drew W g 0 n).2 h.here) ob) _ _ _
  · rw [Lib.byteCells_append]
    refine rangeAt_append (World.rangeAt_setCells_apart (World.rangeAt_alloc ((World.rangeAt_drew W g 0 _).2 h.row) ob) _ _ _ (.inr (.inl (by rw [bytes_len]; omega)))) ?_
    rw [bytes_len, Nat.zero_add]
    exact World.rangeAt_setCells_same _ _ _ _ (there_part (World.there_alloc ((World.there_drew W g 0 n).2 h.here) ob) (by rw [bytes_len]; omega))
  · exact World.rangeAt_setCells_apart (World.rangeAt_alloc ((World.rangeAt_drew W g 32 _).2 h.tail) ob) _ _ _ (.inr (.inr (by rw [bytes_len]; omega)))
  · have h1 : Below base w (W.drew.alloc ob) := h.bel.drew.alloc (Nat.le_trans hw h.bel.size) ob
    exact setCells_bel' h1 hg
set_option maxHeartbeats 4000000 in
theorem putInt_any (base b o : Nat) (x : N4) (g n cap : Nat) (l : List UInt8) (w : World) (hx : At4 w b o x) (hth : w.there g 0 n) (hrow : w.rangeAt g 0 (Lib.byteCells l)) (hl : l.length = n) (hn32 : 32 ≤ n) (hcap : n ≤ cap) (hbg : b ≠ g) (hBw : base ≤ w.heap.size) (hBg : base ≤ g) :
    Calls Try.prog 40 #[.pointer (some ⟨b, o, none⟩), .slice (some ⟨g, 0, none⟩) n cap] w fun e w' => e = .returned (.tuple #[]) ∧ w'.rangeAt g 0 (Lib.byteCells (Lib.beBytes 32 x.toNat ++ l.drop 32)) ∧ Below base w w' := by
  have k0 : ¬ cap = 0 := by omega
  have k8 : ¬ cap = 8 := by omega
  have k16 : ¬ cap = 16 := by omega
  have k24 : ¬ cap = 24 := by omega
  have c8 : (8 : Int) ≤ (cap : Int) := by omega
  have c16 : (16 : Int) ≤ (cap : Int) := by omega
  have c24 : (24 : Int) ≤ (cap : Int) := by omega
  have c32 : (32 : Int) ≤ (cap : Int) := by omega
  have htail : w.rangeAt g 32 (Lib.byteCells (l.drop 32)) := by
    have h := range_drop hrow 32 (by rw [bytes_len, hl]; omega)
    rw [Nat.zero_add] at h
    have e : (Lib.byteCells l).drop 32 = Lib.byteCells (l.drop 32) := by unfold Lib.byteCells; rw [List.map_drop]
    rwa [e] at h
  obtain ⟨u31, hu⟩ := bytes_at (l := l) (j := 31) (by omega)
  have hc31 : w.cell? ⟨g, 31, none⟩ = some (.int .u8 u31) := by
    have := hrow 31 _ hu
    rwa [Nat.zero_add] at this
  have H : Over base w b o x g n [] (l.drop 32) w := ⟨hx, hth, fun j v hv => by simp [Lib.byteCells] at hv, htail, Below.refl _ _⟩
  clear htail hu hrow hth hl
  go_enter Try.func40, Try.ntmps40
  go_wp2
  clear hc31
  have hw := H.at4.c3
  go_wp2
  refine wp_region_noPanic ?_
  refine wp_region_held_drew (S := (fun w' => w'.cell? ⟨b, o + 3, none⟩ = some (V x.d))) (by kernel_rfl) (by exact hw) (fun hHeld => ?_)
  refine hm_take (i := 0) (v := ?_) rfl rfl (by kernel_rfl) (by kernel_rfl) (by kernel_rfl) (fun _ _ _ h => h) rfl ?_ (by assumption) ?_
  rotate_left
  · (intro w hSw; (try dsimp only at hSw); go_simp; try with_reducible rfl)
  try simp only [Act.put, List.setIfInBounds_toArray, List.set_cons_zero, List.set_cons_succ]
  refine hm_take (i := 1) (v := ?_) rfl rfl (by kernel_rfl) (by kernel_rfl) (by kernel_rfl) (fun _ _ _ h => h) rfl ?_ (by assumption) ?_
  rotate_left
  · (intro w hSw; (try dsimp only at hSw); go_simp; try with_reducible rfl)
  try simp only [Act.put, List.setIfInBounds_toArray, List.set_cons_zero, List.set_cons_succ]
  refine hm_take (i := 2) (v := ?_) rfl rfl (by kernel_rfl) (by kernel_rfl) (by kernel_rfl) (fun _ _ _ h => h) rfl ?_ (by assumption) ?_
  rotate_left
  · (intro w hSw; (try dsimp only at hSw); go_simp; try with_reducible rfl)
  try simp only [Act.put, List.setIfInBounds_toArray, List.set_cons_zero, List.set_cons_succ]
  refine hm_take (i := 3) (v := ?_) rfl rfl (by kernel_rfl) (by kernel_rfl) (by kernel_rfl) (fun _ _ _ h => h) rfl ?_ (by assumption) ?_
  rotate_left
  · (intro w hSw; (try dsimp only at hSw); go_simp; try with_reducible rfl)
  try simp only [Act.put, List.setIfInBounds_toArray, List.set_cons_zero, List.set_cons_succ]
  refine hm_take (i := 4) (v := ?_) rfl rfl (by kernel_rfl) (by kernel_rfl) (by kernel_rfl) (fun _ _ _ h => h) rfl ?_ (by assumption) ?_
  rotate_left
  · (intro w hSw; (try dsimp only at hSw); go_simp; try with_reducible rfl)
  try simp only [Act.put, List.setIfInBounds_toArray, List.set_cons_zero, List.set_cons_succ]
  refine hm_take (i := 5) (v := ?_) rfl rfl (by kernel_rfl) (by kernel_rfl) (by kernel_rfl) (fun _ _ _ h => h) rfl ?_ (by assumption) ?_
  rotate_left
  · (intro w hSw; (try dsimp only at hSw); go_simp; try with_reducible rfl)
  try simp only [Act.put, List.setIfInBounds_toArray, List.set_cons_zero, List.set_cons_succ]
  refine hm_take (i := 6) (v := ?_) rfl rfl (by kernel_rfl) (by kernel_rfl) (by kernel_rfl) (fun _ _ _ h => h) rfl ?_ (by assumption) ?_
  rotate_left
  · (intro w hSw; (try dsimp only at hSw); go_simp; try with_reducible rfl)
  try simp only [Act.put, List.setIfInBounds_toArray, List.set_cons_zero, List.set_cons_succ]
  refine hm_call (i := 7) rfl (by kernel_rfl) rfl (fun K hK => ?_)
  go_simp
  (go_at_call 56; refine (putU64_any _ 0 _ _ x.d _ (by omega) ((World.there_drew _ _ _ _).2 (there_part H.here (by omega)))).mono ?_; rintro e w' ⟨rfl, rfl⟩)
  (try go_wp2_with fail)
  refine hK.out _ _ (by (try dsimp only); exact (H.put hbg hBw hBg (Lib.beBytes 8 x.d.toNat) (by simp [be_len]) hn32 _).at4.c3) (fun hHeld => ?_)
  clear hK K
  try simp only [Act.put, List.setIfInBounds_toArray, List.set_cons_zero, List.set_cons_succ]
  refine wpAnyH_done (by kernel_rfl) ?_ _
  refine NoPanic.normal ?_
  have H2 := H.put hbg hBw hBg (Lib.beBytes 8 x.d.toNat) (by simp [be_len]) hn32 (.cells #[] 77)
  clear H hw hHeld
  simp only [List.nil_append, List.length_append, be_len, List.length_nil, Nat.reduceAdd] at H2
  revert H2
  generalize World.setCells _ _ _ _ = W1
  intro H
  have hw := H.at4.c2
  go_wp2
  refine wp_region_noPanic ?_
  refine wp_region_held_drew (S := (fun w' => w'.cell? ⟨b, o + 2, none⟩ = some (V x.c))) (by kernel_rfl) (by exact hw) (fun hHeld => ?_)
  refine hm_take (i := 0) (v := ?_) rfl rfl (by kernel_rfl) (by kernel_rfl) (by kernel_rfl) (fun _ _ _ h => h) rfl ?_ (by assumption) ?_
  rotate_left
  · (intro w hSw; (try dsimp only at hSw); go_simp; try with_reducible rfl)
  try simp only [Act.put, List.setIfInBounds_toArray, List.set_cons_zero, List.set_cons_succ]
  refine hm_take (i := 1) (v := ?_) rfl rfl (by kernel_rfl) (by kernel_rfl) (by kernel_rfl) (fun _ _ _ h => h) rfl ?_ (by assumption) ?_
  rotate_left
  · (intro w hSw; (try dsimp only at hSw); go_simp; try with_reducible rfl)
  try simp only [Act.put, List.setIfInBounds_toArray, List.set_cons_zero, List.set_cons_succ]
  refine hm_take (i := 2) (v := ?_) rfl rfl (by kernel_rfl) (by kernel_rfl) (by kernel_rfl) (fun _ _ _ h => h) rfl ?_ (by assumption) ?_
  rotate_left
  · (intro w hSw; (try dsimp only at hSw); go_simp; try with_reducible rfl)
  try simp only [Act.put, List.setIfInBounds_toArray, List.set_cons_zero, List.set_cons_succ]
  refine hm_take (i := 3) (v := ?_) rfl rfl (by kernel_rfl) (by kernel_rfl) (by kernel_rfl) (fun _ _ _ h => h) rfl ?_ (by assumption) ?_
  rotate_left
  · (intro w hSw; (try dsimp only at hSw); go_simp; try with_reducible rfl)
  try simp only [Act.put, List.setIfInBounds_toArray, List.set_cons_zero, List.set_cons_succ]
  refine hm_take (i := 4) (v := ?_) rfl rfl (by kernel_rfl) (by kernel_rfl) (by kernel_rfl) (fun _ _ _ h => h) rfl ?_ (by assumption) ?_
  rotate_left
  · (intro w hSw; (try dsimp only at hSw); go_simp; try with_reducible rfl)
  try simp only [Act.put, List.setIfInBounds_toArray, List.set_cons_zero, List.set_cons_succ]
  refine hm_take (i := 5) (v := ?_) rfl rfl (by kernel_rfl) (by kernel_rfl) (by kernel_rfl) (fun _ _ _ h => h) rfl ?_ (by assumption) ?_
  rotate_left
  · (intro w hSw; (try dsimp only at hSw); go_simp; try with_reducible rfl)
  try simp only [Act.put, List.setIfInBounds_toArray, List.set_cons_zero, List.set_cons_succ]
  refine hm_take (i := 6) (v := ?_) rfl rfl (by kernel_rfl) (by kernel_rfl) (by kernel_rfl) (fun _ _ _ h => h) rfl ?_ (by assumption) ?_
  rotate_left
  · (intro w hSw; (try dsimp only at hSw); go_simp; try with_reducible rfl)
  try simp only [Act.put, List.setIfInBounds_toArray, List.set_cons_zero, List.set_cons_succ]
  refine hm_call (i := 7) rfl (by kernel_rfl) rfl (fun K hK => ?_)
  go_simp
  (go_at_call 56; refine (putU64_any _ 8 _ _ x.c _ (by omega) ((World.there_drew _ _ _ _).2 (there_part H.here (by omega)))).mono ?_; rintro e w' ⟨rfl, rfl⟩)
  (try go_wp2_with fail)
  refine hK.out _ _ (by (try dsimp only); exact (H.put hbg hBw hBg (Lib.beBytes 8 x.c.toNat) (by simp [be_len]) hn32 _).at4.c2) (fun hHeld => ?_)
  clear hK K
  try simp only [Act.put, List.setIfInBounds_toArray, List.set_cons_zero, List.set_cons_succ]
  refine wpAnyH_done (by kernel_rfl) ?_ _
  refine NoPanic.normal ?_
  have H2 := H.put hbg hBw hBg (Lib.beBytes 8 x.c.toNat) (by simp [be_len]) hn32 (.cells #[] 77)
  clear H hw hHeld
  simp only [List.nil_append, List.length_append, be_len, List.length_nil, Nat.reduceAdd] at H2
  revert H2
  generalize World.setCells _ _ _ _ = W1
  intro H
  have hw := H.at4.c1
  go_wp2
  refine wp_region_noPanic ?_
  refine wp_region_held_drew (S := (fun w' => w'.cell? ⟨b, o + 1, none⟩ = some (V x.b))) (by kernel_rfl) (by exact hw) (fun hHeld => ?_)
  refine hm_take (i := 0) (v := ?_) rfl rfl (by kernel_rfl) (by kernel_rfl) (by kernel_rfl) (fun _ _ _ h => h) rfl ?_ (by assumption) ?_
  rotate_left
  · (intro w hSw; (try dsimp only at hSw); go_simp; try with_reducible rfl)
  try simp only [Act.put, List.setIfInBounds_toArray, List.set_cons_zero, List.set_cons_succ]
  refine hm_take (i := 1) (v := ?_) rfl rfl (by kernel_rfl) (by kernel_rfl) (by kernel_rfl) (fun _ _ _ h => h) rfl ?_ (by assumption) ?_
  rotate_left
  · (intro w hSw; (try dsimp only at hSw); go_simp; try with_reducible rfl)
  try simp only [Act.put, List.setIfInBounds_toArray, List.set_cons_zero, List.set_cons_succ]
  refine hm_take (i := 2) (v := ?_) rfl rfl (by kernel_rfl) (by kernel_rfl) (by kernel_rfl) (fun _ _ _ h => h) rfl ?_ (by assumption) ?_
  rotate_left
  · (intro w hSw; (try dsimp only at hSw); go_simp; try with_reducible rfl)
  try simp only [Act.put, List.setIfInBounds_toArray, List.set_cons_zero, List.set_cons_succ]
  refine hm_take (i := 3) (v := ?_) rfl rfl (by kernel_rfl) (by kernel_rfl) (by kernel_rfl) (fun _ _ _ h => h) rfl ?_ (by assumption) ?_
  rotate_left
  · (intro w hSw; (try dsimp only at hSw); go_simp; try with_reducible rfl)
  try simp only [Act.put, List.setIfInBounds_toArray, List.set_cons_zero, List.set_cons_succ]
  refine hm_take (i := 4) (v := ?_) rfl rfl (by kernel_rfl) (by kernel_rfl) (by kernel_rfl) (fun _ _ _ h => h) rfl ?_ (by assumption) ?_
  rotate_left
  · (intro w hSw; (try dsimp only at hSw); go_simp; try with_reducible rfl)
  try simp only [Act.put, List.setIfInBounds_toArray, List.set_cons_zero, List.set_cons_succ]
  refine hm_take (i := 5) (v := ?_) rfl rfl (by kernel_rfl) (by kernel_rfl) (by kernel_rfl) (fun _ _ _ h => h) rfl ?_ (by assumption) ?_
  rotate_left
  · (intro w hSw; (try dsimp only at hSw); go_simp; try with_reducible rfl)
  try simp only [Act.put, List.setIfInBounds_toArray, List.set_cons_zero, List.set_cons_succ]
  refine hm_take (i := 6) (v := ?_) rfl rfl (by kernel_rfl) (by kernel_rfl) (by kernel_rfl) (fun _ _ _ h => h) rfl ?_ (by assumption) ?_
  rotate_left
  · (intro w hSw; (try dsimp only at hSw); go_simp; try with_reducible rfl)
  try simp only [Act.put, List.setIfInBounds_toArray, List.set_cons_zero, List.set_cons_succ]
  refine hm_call (i := 7) rfl (by kernel_rfl) rfl (fun K hK => ?_)
  go_simp
  (go_at_call 56; refine (putU64_any _ 16 _ _ x.b _ (by omega) ((World.there_drew _ _ _ _).2 (there_part H.here (by omega)))).mono ?_; rintro e w' ⟨rfl, rfl⟩)
  (try go_wp2_with fail)
  refine hK.out _ _ (by (try dsimp only); exact (H.put hbg hBw hBg (Lib.beBytes 8 x.b.toNat) (by simp [be_len]) hn32 _).at4.c1) (fun hHeld => ?_)
  clear hK K
  try simp only [Act.put, List.setIfInBounds_toArray, List.set_cons_zero, List.set_cons_succ]
  refine wpAnyH_done (by kernel_rfl) ?_ _
  refine NoPanic.normal ?_
  have H2 := H.put hbg hBw hBg (Lib.beBytes 8 x.b.toNat) (by simp [be_len]) hn32 (.cells #[] 77)
  clear H hw hHeld
  simp only [List.nil_append, List.length_append, be_len, List.length_nil, Nat.reduceAdd] at H2
  revert H2
  generalize World.setCells _ _ _ _ = W1
  intro H
  have hw := H.at4.c0
  go_wp2
  refine wp_region_noPanic ?_
  refine wp_region_held_drew (S := (fun w' => w'.cell? ⟨b, o, none⟩ = some (V x.a))) (by kernel_rfl) (by exact hw) (fun hHeld => ?_)
  refine hm_take (i := 0) (v := ?_) rfl rfl (by kernel_rfl) (by kernel_rfl) (by kernel_rfl) (fun _ _ _ h => h) rfl ?_ (by assumption) ?_
  rotate_left
  · (intro w hSw; (try dsimp only at hSw); go_simp; try with_reducible rfl)
  try simp only [Act.put, List.setIfInBounds_toArray, List.set_cons_zero, List.set_cons_succ]
  refine hm_take (i := 1) (v := ?_) rfl rfl (by kernel_rfl) (by kernel_rfl) (by kernel_rfl) (fun _ _ _ h => h) rfl ?_ (by assumption) ?_
  rotate_left
  · (intro w hSw; (try dsimp only at hSw); go_simp; try with_reducible rfl)
  try simp only [Act.put, List.setIfInBounds_toArray, List.set_cons_zero, List.set_cons_succ]
  refine hm_take (i := 2) (v := ?_) rfl rfl (by kernel_rfl) (by kernel_rfl) (by kernel_rfl) (fun _ _ _ h => h) rfl ?_ (by assumption) ?_
  rotate_left
  · (intro w hSw; (try dsimp only at hSw); go_simp; try with_reducible rfl)
  try simp only [Act.put, List.setIfInBounds_toArray, List.set_cons_zero, List.set_cons_succ]
  refine hm_take (i := 3) (v := ?_) rfl rfl (by kernel_rfl) (by kernel_rfl) (by kernel_rfl) (fun _ _ _ h => h) rfl ?_ (by assumption) ?_
  rotate_left
  · (intro w hSw; (try dsimp only at hSw); go_simp; try with_reducible rfl)
  try simp only [Act.put, List.setIfInBounds_toArray, List.set_cons_zero, List.set_cons_succ]
  refine hm_take (i := 4) (v := ?_) rfl rfl (by kernel_rfl) (by kernel_rfl) (by kernel_rfl) (fun _ _ _ h => h) rfl ?_ (by assumption) ?_
  rotate_left
  · (intro w hSw; (try dsimp only at hSw); go_simp; try with_reducible rfl)
  try simp only [Act.put, List.setIfInBounds_toArray, List.set_cons_zero, List.set_cons_succ]
  refine hm_take (i := 5) (v := ?_) rfl rfl (by kernel_rfl) (by kernel_rfl) (by kernel_rfl) (fun _ _ _ h => h) rfl ?_ (by assumption) ?_
  rotate_left
  · (intro w hSw; (try dsimp only at hSw); go_simp; try with_reducible rfl)
  try simp only [Act.put, List.setIfInBounds_toArray, List.set_cons_zero, List.set_cons_succ]
  refine hm_take (i := 6) (v := ?_) rfl rfl (by kernel_rfl) (by kernel_rfl) (by kernel_rfl) (fun _ _ _ h => h) rfl ?_ (by assumption) ?_
  rotate_left
  · (intro w hSw; (try dsimp only at hSw); go_simp; try with_reducible rfl)
  try simp only [Act.put, List.setIfInBounds_toArray, List.set_cons_zero, List.set_cons_succ]
  refine hm_call (i := 7) rfl (by kernel_rfl) rfl (fun K hK => ?_)
  go_simp
  (go_at_call 56; refine (putU64_any _ 24 _ _ x.a _ (by omega) ((World.there_drew _ _ _ _).2 (there_part H.here (by omega)))).mono ?_; rintro e w' ⟨rfl, rfl⟩)
  (try go_wp2_with fail)
  refine hK.out _ _ (by (try dsimp only); exact (H.put hbg hBw hBg (Lib.beBytes 8 x.a.toNat) (by simp [be_len]) hn32 _).at4.c0) (fun hHeld => ?_)
  clear hK K
  try simp only [Act.put, List.setIfInBounds_toArray, List.set_cons_zero, List.set_cons_succ]
  refine wpAnyH_done (by kernel_rfl) ?_ _
  refine NoPanic.normal ?_
  have H2 := H.put hbg hBw hBg (Lib.beBytes 8 x.a.toNat) (by simp [be_len]) hn32 (.cells #[] 77)
  clear H hw hHeld
  simp only [List.nil_append, List.length_append, be_len, List.length_nil, Nat.reduceAdd] at H2
  revert H2
  generalize World.setCells _ _ _ _ = W1
  intro H
  have h1 := H.row
  rw [be32_words] at h1
  have h2 := H.tail
  have hbel := H.bel
  clear H
  have HR : Hid (W1.rangeAt g 0 (Lib.byteCells (Lib.beBytes 32 x.toNat ++ l.drop 32))) := by
    show World.rangeAt _ _ _ _
    rw [Lib.byteCells_append]
    exact rangeAt_append h1 (by rw [bytes_len, be_len]; exact h2)
  clear h1 h2
  go_wp2
  go_end0
  exact ⟨rfl, HR.out, hbel⟩
set_option maxHeartbeats 1000000 in
theorem putInt_short (p : Value) (A : Option Addr) (n cap : Nat) (w : World) (hn : n < 32) (hnil : A = none → n = 0) :
    Calls Try.prog 40 #[p, .slice A n cap] w fun e w' => (∃ u, e = .panicked [{ v := .iface Try.prog.rt.boundsError u, recovered := false }]) ∧ w' = w.drew := by
  have hbp : ∀ (m : Int) (W : World), (boundsPanic (α := Value) .i64 31 m .index).run Try.prog W = _ := fun m W => Lib.run_boundsPanic_index Try.prog 31 m W (by decide) (by decide)
  cases A with
  | none =>
    obtain rfl := hnil rfl
    have hix : ∀ W : World, (Instr.indexAt 25 (.slice none 0 cap) (.int .i64 31)).run Try.prog W = _ := fun W => Lib.run_indexAt_nil W 25 5 0 cap .i64 31 Try.underlying25
    go_enter Try.func40, Try.ntmps40
    go_wp2
    exact ⟨rfl, ⟨_, rfl⟩, rfl⟩
  | some a =>
    go_enter Try.func40, Try.ntmps40
    go_wp2
    exact ⟨rfl, ⟨_, rfl⟩, rfl⟩
theorem catchPut_panic (g1 g2 : Nat) (a1 a2 : Value) (u : TypeId) (pv : Value) (older : List PanicEntry) (w : World) (h1 : w.cell? ⟨g1, 0, none⟩ = some a1) (z1 : w.frozen? ⟨g1, 0, none⟩ = false) (h2 : w.cell? ⟨g2, 0, none⟩ = some a2) (z2 : w.frozen? ⟨g2, 0, none⟩ = false) (hne : ¬ g1 = g2) :
    CallsD Try.prog 39 #[.pointer (some ⟨g1, 0, none⟩), .pointer (some ⟨g2, 0, none⟩)] (.panicking ({ v := .iface u pv, recovered := false } :: older)) w fun e u' w' =>
      e = .returned (.tuple #[]) ∧ u' = .panicking ({ v := .iface u pv, recovered := true } :: older) ∧ w' = (w.setCell ⟨g1, 0, none⟩ (.slice none 0 0)).setCell ⟨g2, 0, none⟩ (.bool true) := by
  have hne' : ¬ g2 = g1 := fun e => hne e.symm
  refine callsD_of_wpS Try.func39 rfl fun c₀ cs hu => ?_
  apply wpS_seq
  apply wpS_region
  simp [wpOpsS, go_sem, recoverD, hu, Try.ntmps39, Exit.thenS]
  refine wpS_cond (t := true) (by simp [Act.eval, Array.replicate]) ?_
  simp only [if_true]
  apply wpS_region
  simp [wpOpsS, go_sem, h1, z1, h2, z2, hne, hne', bodyPostS, results, Try.results39]
theorem catchPut_idle (p q : Value) (w : World) :
    CallsD Try.prog 39 #[p, q] .returning w fun e u' w' => e = .returned (.tuple #[]) ∧ u' = .returning ∧ w' = w := by
  refine callsD_of_wpS Try.func39 rfl fun c₀ cs hu => ?_
  apply wpS_seq
  apply wpS_region
  simp [wpOpsS, go_sem, recoverD, hu, Try.ntmps39, Exit.thenS]
  refine wpS_cond (t := false) (by simp [Act.eval, Array.replicate]) ?_
  simp only [Bool.false_eq_true, if_false]
  refine wpS_of_wp (wp_skip ?_)
  cases c₀
  simp_all [bodyPostS, results, Try.results39]
set_option maxHeartbeats 2000000 in
theorem implPut_short (x : N4) (v : Value) (l : List UInt8) (w : World) (hv : SlB w v l) (hl : l.length < 32) : Calls Try.prog 18 #[x.v, v] w fun e w' => (∃ u, e = .returned (.tuple #[u, .bool true])) ∧ Below w.heap.size w w' := by
  have hmf : ∀ (fn : Fn) (first cap : Array Value) (w : World), (Instr.makeFunc fn first cap).run Try.prog w = .ok (.func fn first cap) w := fun _ _ _ _ => rfl
  go_enter_defers Try.func18, Try.ntmps18
  go_wp2_with fail
  refine (copied_any v l _ ((((hv.alloc _).alloc _).alloc _)) (by omega)).mono ?_
  rintro e w1 ⟨v1, rfl, hown, hb1⟩
  obtain ⟨A, cap, rfl, hnil⟩ : ∃ A cap, v1 = .slice A l.length cap ∧ (A = none → l.length = 0) := by
    obtain ⟨A, cap, rfl, _, h⟩ := SlB.of_own hown
    refine ⟨A, cap, rfl, fun e => ?_⟩
    cases l with
    | nil => rfl
    | cons b l => obtain ⟨g, o, e1, _⟩ := h 0 b rfl; rw [e] at e1; cases e1
  have hbox := At4.bel (c := w.heap.size) (o := 0) (x := x) ⟨by simp [go_sem], by simp [go_sem], by simp [go_sem], by simp [go_sem]⟩ hb1
  have hr1 : w1.cell? ⟨w.heap.size + 1, 0, none⟩ = some (.slice none 0 0) := bel_cell hb1 (by simp [go_sem])
  have hr2 : w1.cell? ⟨w.heap.size + 2, 0, none⟩ = some (.bool false) := bel_cell hb1 (by simp [go_sem])
  have hf1 : w1.frozen? ⟨w.heap.size + 1, 0, none⟩ = false := (hb1.frozen (p := ⟨w.heap.size + 1, 0, none⟩) (by simp)).trans (by simp [go_sem])
  have hf2 : w1.frozen? ⟨w.heap.size + 2, 0, none⟩ = false := (hb1.frozen (p := ⟨w.heap.size + 2, 0, none⟩) (by simp)).trans (by simp [go_sem])
  have hlt2 : w.heap.size + 2 < w1.heap.size := World.block_lt_of_cell? _ _ hr2
  have hbel1 : Below w.heap.size w w1 := bel_trans (bel_alloc (bel_alloc (bel_alloc (bel_refl w) _) _) _) hb1
  obtain ⟨q0, q1, q2, q3⟩ := hbox
  clear hown hb1
  generalize l.length = n at *
  go_wp2_with (first
    | (go_at_call 33; refine (intOf_any x _).mono ?_; rintro e w2 ⟨B, rfl, m⟩)
    | (go_at_call 40; refine (putInt_short _ A _ cap _ hl hnil).mono ?_; rintro e w3 ⟨⟨u, rfl⟩, rfl⟩))
  refine leaves_cons (f := 39) (args := #[.pointer (some ⟨w.heap.size + 1, 0, none⟩), .pointer (some ⟨w.heap.size + 2, 0, none⟩)]) (by simp) (by simp [go_sem]) ?_
  refine (catchPut_panic (w.heap.size + 1) (w.heap.size + 2) _ _ _ _ [] _ (bel_cell (bel_drew m.bel) hr1) (((bel_drew m.bel).frozen (p := ⟨w.heap.size + 1, 0, none⟩) (by simp; omega)).trans hf1) (bel_cell (bel_drew m.bel) hr2) (((bel_drew m.bel).frozen (p := ⟨w.heap.size + 2, 0, none⟩) (by simp; omega)).trans hf2) (by omega)).mono ?_
  rintro e u' w'' ⟨rfl, rfl, rfl⟩
  have k1 := bel_cell m.bel hr1
  have k2 := bel_cell m.bel hr2
  have e11 : w.heap.size + 1 + 1 = w.heap.size + 2 := rfl
  simp [Leaves, settle, results, Try.results18, go_sem, k1, k2, e11]
  exact bel_drew (bel_set (bel_set (bel_trans hbel1 m.bel) _ (by simp) _) _ (by simp) _)
set_option maxHeartbeats 2000000 in
theorem implPut_long (x : N4) (v : Value) (l : List UInt8) (w : World) (hv : SlB w v l) (hl : 32 ≤ l.length) (hl2 : l.length ≤ 4294967296) : Calls Try.prog 18 #[x.v, v] w fun e w' => ∃ u, e = .returned (.tuple #[u, .bool false]) ∧ SlB w' u (Lib.beBytes 32 x.toNat ++ l.drop 32) ∧ Below w.heap.size w w' := by
  have hmf : ∀ (fn : Fn) (first cap : Array Value) (w : World), (Instr.makeFunc fn first cap).run Try.prog w = .ok (.func fn first cap) w := fun _ _ _ _ => rfl
  go_enter_defers Try.func18, Try.ntmps18
  go_wp2_with fail
  refine (copied_any v l _ ((((hv.alloc _).alloc _).alloc _)) (by omega)).mono ?_
  rintro e w1 ⟨v1, rfl, hown, hb1⟩
  obtain ⟨g, cap, cur, rfl, hg, hcapn⟩ : ∃ g cap cur, v1 = .slice (some ⟨g, 0, none⟩) l.length cap ∧ w.heap.size + 3 ≤ g ∧ l.length ≤ cap := by
    rcases hown.2 with ⟨_, hn⟩ | ⟨g, cap, cur, h1, h2, _, h3, _⟩
    · omega
    · exact ⟨g, cap, cur, h1, by simpa using h2, h3⟩
  have hglt := (hown.lt g rfl).2
  have hrow : w1.rangeAt g 0 (Lib.byteCells l) := fun j u hu => by
    have := hown.cells (g := g) rfl j u hu
    rwa [Addr.add_mid] at this
  have hth : w1.there g 0 l.length := fun j hj => by
    obtain ⟨d, hd⟩ := bytes_at hj
    have h1 := hrow j _ hd
    refine ⟨by rw [h1]; rfl, ?_⟩
    have := hown.frozenAt j
    rwa [Nat.zero_add]
  have hbox := At4.bel (c := w.heap.size) (o := 0) (x := x) ⟨by simp [go_sem], by simp [go_sem], by simp [go_sem], by simp [go_sem]⟩ hb1
  have hr1 : w1.cell? ⟨w.heap.size + 1, 0, none⟩ = some (.slice none 0 0) := bel_cell hb1 (by simp [go_sem])
  have hr2 : w1.cell? ⟨w.heap.size + 2, 0, none⟩ = some (.bool false) := bel_cell hb1 (by simp [go_sem])
  have hf1 : w1.frozen? ⟨w.heap.size + 1, 0, none⟩ = false := (hb1.frozen (p := ⟨w.heap.size + 1, 0, none⟩) (by simp)).trans (by simp [go_sem])
  have hf2 : w1.frozen? ⟨w.heap.size + 2, 0, none⟩ = false := (hb1.frozen (p := ⟨w.heap.size + 2, 0, none⟩) (by simp)).trans (by simp [go_sem])
  have hlt2 : w.heap.size + 2 < w1.heap.size := World.block_lt_of_cell? _ _ hr2
  have hbel1 : Below w.heap.size w w1 := bel_trans (bel_alloc (bel_alloc (bel_alloc (bel_refl w) _) _) _) hb1
  obtain ⟨q0, q1, q2, q3⟩ := hbox
  clear hown hb1
  obtain ⟨n, hnl⟩ : ∃ n, n = l.length := ⟨_, rfl⟩
  rw [← hnl] at hl hl2 hcapn hth ⊢
  have HN := Lib.hid hnl
  have HR := Lib.hid hrow
  have HT := Lib.hid hth
  clear hnl hrow hth
  go_wp2_with (first
    | (go_at_call 33; refine (intOf_any x _).mono ?_; rintro e w2 ⟨B, rfl, m⟩)
    | (go_at_call 40; refine (putInt_any (w.heap.size + 3) B 0 x g n cap l _ m.at4 (there_bel' HT.out m.bel) (rangeAt_bel HR.out m.bel) HN.out.symm hl hcapn (by have := m.ge; omega) (by have := m.bel.size; omega) hg).mono ?_; rintro e w3 ⟨rfl, hrow3, hb3⟩; have HR3 := Lib.hid hrow3; have k1 := (hb3.cell (p := ⟨w.heap.size + 1, 0, none⟩) (by simp)).trans (bel_cell m.bel hr1); have k2 := (hb3.cell (p := ⟨w.heap.size + 2, 0, none⟩) (by simp)).trans (bel_cell m.bel hr2); have z1 := (hb3.frozen (p := ⟨w.heap.size + 1, 0, none⟩) (by simp)).trans ((m.bel.frozen (p := ⟨w.heap.size + 1, 0, none⟩) (by simp; omega)).trans hf1); have z2 := (hb3.frozen (p := ⟨w.heap.size + 2, 0, none⟩) (by simp)).trans ((m.bel.frozen (p := ⟨w.heap.size + 2, 0, none⟩) (by simp; omega)).trans hf2); clear hrow3))
  refine leaves_cons (f := 39) (args := #[.pointer (some ⟨w.heap.size + 1, 0, none⟩), .pointer (some ⟨w.heap.size + 2, 0, none⟩)]) (by simp) (by simp [go_sem]) ?_
  refine (catchPut_idle _ _ _).mono ?_
  rintro e u' w'' ⟨rfl, rfl, rfl⟩
  have e11 : w.heap.size + 1 + 1 = w.heap.size + 2 := rfl
  simp [Leaves, settle, results, Try.results18, go_sem, k1, k2, e11]
  refine ⟨SlB.of_range (g := g) (o := 0) (fun j v hj => ?_) (by rw [List.length_append, be_len, List.length_drop, ← HN.out]; omega) hcapn, bel_set (bel_set ((bel_trans hbel1 m.bel).trans (hb3.mono (by omega))) _ (by simp) _) _ (by simp) _⟩
  rw [World.cell?_setCell_other _ _ _ _ (by intro e; injection e with e; omega), World.cell?_setCell_other _ _ _ _ (by intro e; injection e with e; omega)]
  exact HR3.out j v hj
end Go.Proofs.Ytpmhkmcikjbncaa
