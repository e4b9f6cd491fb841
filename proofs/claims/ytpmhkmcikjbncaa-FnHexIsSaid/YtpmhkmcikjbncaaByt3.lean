/-
  Contracts of uint256's Bytes32, Bytes20, Bytes, ByteLen, and of the thin package's calls of them.
-/
import Derived.Test.YtpmhkmcikjbncaaBin
import Derived.Test.YtpmhkmcikjbncaaRegion2
namespace Go.Proofs.Ytpmhkmcikjbncaa
open Go.RowKit
set_option linter.unusedVariables false
set_option linter.unusedSimpArgs false
set_option maxRecDepth 100000
theorem bytes_len (l : List UInt8) : (Lib.byteCells l).length = l.length := Lib.byteCells_length l
theorem bytes_one (l : List UInt8) : (Lib.byteCells l).toArray.all (·.oneCell') = true := all_oneCell_toArray fun v hv => by
  simp only [Lib.byteCells, List.mem_map] at hv
  obtain ⟨d, _, rfl⟩ := hv
  rfl
theorem rangeAt_append {w : World} {g o : Nat} {cs ds : List Value} (h : w.rangeAt g o cs) (k : w.rangeAt g (o + cs.length) ds) : w.rangeAt g o (cs ++ ds) := fun j v hj => by
  rw [List.getElem?_append] at hj
  by_cases hlt : j < cs.length
  · rw [if_pos hlt] at hj
    exact h j v hj
  · rw [if_neg hlt] at hj
    have := k _ v hj
    rwa [show o + cs.length + (j - cs.length) = o + j by omega] at this
theorem SlB.of_range {w : World} {g o n c : Nat} {l : List UInt8} (h : w.rangeAt g o (Lib.byteCells l)) (hn : n = l.length) (hc : n ≤ c) : SlB w (.slice (some ⟨g, o, none⟩) n c) l := by
  subst hn
  exact ⟨_, c, rfl, hc, fun i b hb => ⟨g, o, rfl, h i _ (bytes_get l i b hb)⟩⟩
theorem SlB.eq {w : World} {v : Value} {l m : List UInt8} (h : SlB w v l) (e : l = m) : SlB w v m := e ▸ h
theorem there_part {w : World} {g n o k : Nat} (h : w.there g 0 n) (hk : o + k ≤ n) : w.there g o k := fun j hj => by
  have := h (o + j) (by omega)
  rwa [Nat.zero_add] at this
theorem there_bel' {w w' : World} {b o n : Nat} (h : w.there b o n) (k : Below w.heap.size w w') : w'.there b o n := fun j hj => by
  have := there_bel h (by omega) k j hj
  exact this
/-- A row of bytes that is being filled: the first bytes l stand in block g. -/
structure Fill (w : World) (b o : Nat) (x : N4) (g r n : Nat) (l : List UInt8) (W : World) : Prop where
  at4 : At4 W b o x
  here : W.there g 0 n
  res : W.there r 0 n
  row : W.rangeAt g 0 (Lib.byteCells l)
  bel : Below w.heap.size w W
theorem Fill.put {w W : World} {b o g r n : Nat} {x : N4} {l : List UInt8} (h : Fill w b o x g r n l W) (hb : b < w.heap.size) (hg : w.heap.size ≤ g) (m : List UInt8) (hm : l.length + m.length ≤ n) (ob : Obj) :
    Fill w b o x g r n (l ++ m) ((W.alloc ob).drew.setCells g l.length (Lib.byteCells m)) := by
  show Fill w b o x g r n (l ++ m) ((W.drew.alloc ob).setCells g l.length (Lib.byteCells m))
  have hne : b ≠ g := by omega
  refine ⟨?_, ?_, World.there_setCells (World.there_alloc ((World.there_drew W r 0 n).2 h.res) ob) _ _ _, ?_, ?_⟩
  · exact ((h.at4.drewN 1).alloc ob).setFar4 hne
  · exact World.there_setCells (World.there_alloc ((World.there_drew W g 0 n).2 h.here) ob) _ _ _
  · rw [Lib.byteCells_append]
    refine rangeAt_append (World.rangeAt_setCells_apart (World.rangeAt_alloc ((World.rangeAt_drew W g 0 _).2 h.row) ob) _ _ _ (.inr (.inl (by rw [bytes_len]; omega)))) ?_
    rw [bytes_len, Nat.zero_add]
    exact World.rangeAt_setCells_same _ _ _ _ (there_part (World.there_alloc ((World.there_drew W g 0 n).2 h.here) ob) (by rw [bytes_len]; exact hm))
  · exact setCells_bel' (bel_alloc (bel_drew h.bel) ob) hg
theorem Fill.same {w W : World} {b o g r n : Nat} {x : N4} {l m : List UInt8} (h : Fill w b o x g r n l W) (e : l = m) : Fill w b o x g r n m W := e ▸ h
theorem Fill.start (w : World) (b o : Nat) (x : N4) (hx : At4 w b o x) (n : Nat) (A : Array Value) (hA : A.size = n) (t : TypeId) : Fill w b o x (w.heap.size + 1) w.heap.size n [] ((w.alloc (.cells A t)).alloc (.cells A t)) := by
  refine ⟨(hx.alloc _).alloc _, ?_, World.there_alloc (there_new w t A n (by omega)) _, fun j v hv => by simp [Lib.byteCells] at hv, bel_alloc (bel_alloc (bel_refl w) _) _⟩
  have := there_new (w.alloc (.cells A t)) t A n (by omega)
  simpa using this
theorem u32_of (c : W64) : IntKind.u32.wrap (U c) = ((c.toNat % 4294967296 : Nat) : Int) := by
  unfold U
  simp [IntKind.wrap, IntKind.bits, IntKind.signed]
/-- The 32 bytes, word by word. -/
theorem be32_words (x : N4) : ((Lib.beBytes 8 x.d.toNat ++ Lib.beBytes 8 x.c.toNat) ++ Lib.beBytes 8 x.b.toNat) ++ Lib.beBytes 8 x.a.toNat = Lib.beBytes 32 x.toNat := by
  have h0 := x.a.isLt; have h1 := x.b.isLt; have h2 := x.c.isLt; have h3 := x.d.isLt
  rw [show (32 : Nat) = 24 + 8 from rfl, be_append, show (24 : Nat) = 16 + 8 from rfl, be_append, show (16 : Nat) = 8 + 8 from rfl, be_append]
  congr 1
  · congr 1
    · congr 1
      · exact be_mod _ _ _ (by unfold N4.toNat; omega)
      · exact be_mod _ _ _ (by unfold N4.toNat; omega)
    · exact be_mod _ _ _ (by unfold N4.toNat; omega)
  · exact be_mod _ _ _ (by unfold N4.toNat; omega)
theorem be20_words (x : N4) : (Lib.beBytes 4 (x.c.toNat % 4294967296) ++ Lib.beBytes 8 x.b.toNat) ++ Lib.beBytes 8 x.a.toNat = Lib.beBytes 20 x.toNat := by
  have h0 := x.a.isLt; have h1 := x.b.isLt; have h2 := x.c.isLt; have h3 := x.d.isLt
  rw [show (20 : Nat) = 12 + 8 from rfl, be_append, show (12 : Nat) = 4 + 8 from rfl, be_append]
  congr 1
  · congr 1
    · exact be_mod _ _ _ (by unfold N4.toNat; omega)
    · exact be_mod _ _ _ (by unfold N4.toNat; omega)
  · exact be_mod _ _ _ (by unfold N4.toNat; omega)
set_option maxHeartbeats 4000000 in
theorem bytes32_any (b o : Nat) (x : N4) (w : World) (hx : At4 w b o x) : Calls Try.prog 45 #[.pointer (some ⟨b, o, none⟩)] w (RetBel (.agg (Lib.byteCells (Lib.beBytes 32 x.toNat)).toArray) w) := by
  have hb := hx.lt
  go_enter Try.func45, Try.ntmps45
  go_wp2
  have hg : w.heap.size ≤ w.heap.size + 1 := Nat.le_succ _
  have H := Fill.start w b o x hx 32 (Array.mk [Value.int .u8 0, Value.int .u8 0, Value.int .u8 0, Value.int .u8 0, Value.int .u8 0, Value.int .u8 0, Value.int .u8 0, Value.int .u8 0, Value.int .u8 0, Value.int .u8 0, Value.int .u8 0, Value.int .u8 0, Value.int .u8 0, Value.int .u8 0, Value.int .u8 0, Value.int .u8 0, Value.int .u8 0, Value.int .u8 0, Value.int .u8 0, Value.int .u8 0, Value.int .u8 0, Value.int .u8 0, Value.int .u8 0, Value.int .u8 0, Value.int .u8 0, Value.int .u8 0, Value.int .u8 0, Value.int .u8 0, Value.int .u8 0, Value.int .u8 0, Value.int .u8 0, Value.int .u8 0]) rfl 56
  have hw := H.at4.c3
  go_wp2
  refine wp_region_noPanic ?_
  refine wp_region_held_drew (S := (fun w' => w'.cell? ⟨b, o + 3, none⟩ = some (V x.d))) (by kernel_rfl) (by exact hw) (fun hHeld => ?_)
  refine hm_take (i := 0) (v := ?_) rfl rfl (by kernel_rfl) (by kernel_rfl) (by kernel_rfl) (fun _ _ _ h => h) rfl ?_ (by assumption) ?_
  rotate_left
  · (intro w hSw; (try dsimp only at hSw); go_simp; try with_reducible rfl)
  try simp only [Act.put, List.setIfInBounds_toArray, List.set_cons_zero, List.set_cons_succ]
  refine hm_take (i := 1) (v := ?_) rfl rfl (by kernel_rfl) (by kernel_rfl) (by kernel_rfl) (fun _ _ _ h => h) rfl ?_ (by assumption) ?_
  rotate_left
  · (intro w hSw; (try dsimp only at hSw); go_simp; try with_reducible rfl)
  try simp only [Act.put, List.setIfInBounds_toArray, List.set_cons_zero, List.set_cons_succ]
  refine hm_take (i := 2) (v := ?_) rfl rfl (by kernel_rfl) (by kernel_rfl) (by kernel_rfl) (fun _ _ _ h => h) rfl ?_ (by assumption) ?_
  rotate_left
  · (intro w hSw; (try dsimp only at hSw); go_simp; try with_reducible rfl)
  try simp only [Act.put, List.setIfInBounds_toArray, List.set_cons_zero, List.set_cons_succ]
  refine hm_take (i := 3) (v := ?_) rfl rfl (by kernel_rfl) (by kernel_rfl) (by kernel_rfl) (fun _ _ _ h => h) rfl ?_ (by assumption) ?_
  rotate_left
  · (intro w hSw; (try dsimp only at hSw); go_simp; try with_reducible rfl)
  try simp only [Act.put, List.setIfInBounds_toArray, List.set_cons_zero, List.set_cons_succ]
  refine hm_take (i := 4) (v := ?_) rfl rfl (by kernel_rfl) (by kernel_rfl) (by kernel_rfl) (fun _ _ _ h => h) rfl ?_ (by assumption) ?_
  rotate_left
  · (intro w hSw; (try dsimp only at hSw); go_simp; try with_reducible rfl)
  try simp only [Act.put, List.setIfInBounds_toArray, List.set_cons_zero, List.set_cons_succ]
  refine hm_take (i := 5) (v := ?_) rfl rfl (by kernel_rfl) (by kernel_rfl) (by kernel_rfl) (fun _ _ _ h => h) rfl ?_ (by assumption) ?_
  rotate_left
  · (intro w hSw; (try dsimp only at hSw); go_simp; try with_reducible rfl)
  try simp only [Act.put, List.setIfInBounds_toArray, List.set_cons_zero, List.set_cons_succ]
  refine hm_call (i := 6) rfl (by kernel_rfl) rfl (fun K hK => ?_)
  go_simp
  (go_at_call 56; refine (putU64_any _ 0 _ _ x.d _ (by omega) ((World.there_drew _ _ _ _).2 (there_part H.here (by omega)))).mono ?_; rintro e w' ⟨rfl, rfl⟩)
  (try go_wp2_with fail)
  refine hK.out _ _ (by (try dsimp only); exact (H.put hb hg (Lib.beBytes 8 x.d.toNat) (by simp [be_len]) _).at4.c3) (fun hHeld => ?_)
  clear hK K
  try simp only [Act.put, List.setIfInBounds_toArray, List.set_cons_zero, List.set_cons_succ]
  refine wpAnyH_done (by kernel_rfl) ?_ _
  refine NoPanic.normal ?_
  have H2 := H.put hb hg (Lib.beBytes 8 x.d.toNat) (by simp [be_len]) (.cells #[] 77)
  clear H hw hHeld
  simp only [List.nil_append, List.length_append, be_len, List.length_nil, Nat.reduceAdd] at H2
  revert H2
  generalize World.setCells _ _ _ _ = W1
  intro H
  have hw := H.at4.c2
  go_wp2
  refine wp_region_noPanic ?_
  refine wp_region_held_drew (S := (fun w' => w'.cell? ⟨b, o + 2, none⟩ = some (V x.c))) (by kernel_rfl) (by exact hw) (fun hHeld => ?_)
  refine hm_take (i := 0) (v := ?_) rfl rfl (by kernel_rfl) (by kernel_rfl) (by kernel_rfl) (fun _ _ _ h => h) rfl ?_ (by assumption) ?_
  rotate_left
  · (intro w hSw; (try dsimp only at hSw); go_simp; try with_reducible rfl)
  try simp only [Act.put, List.setIfInBounds_toArray, List.set_cons_zero, List.set_cons_succ]
  refine hm_take (i := 1) (v := ?_) rfl rfl (by kernel_rfl) (by kernel_rfl) (by kernel_rfl) (fun _ _ _ h => h) rfl ?_ (by assumption) ?_
  rotate_left
  · (intro w hSw; (try dsimp only at hSw); go_simp; try with_reducible rfl)
  try simp only [Act.put, List.setIfInBounds_toArray, List.set_cons_zero, List.set_cons_succ]
  refine hm_take (i := 2) (v := ?_) rfl rfl (by kernel_rfl) (by kernel_rfl) (by kernel_rfl) (fun _ _ _ h => h) rfl ?_ (by assumption) ?_
  rotate_left
  · (intro w hSw; (try dsimp only at hSw); go_simp; try with_reducible rfl)
  try simp only [Act.put, List.setIfInBounds_toArray, List.set_cons_zero, List.set_cons_succ]
  refine hm_take (i := 3) (v := ?_) rfl rfl (by kernel_rfl) (by kernel_rfl) (by kernel_rfl) (fun _ _ _ h => h) rfl ?_ (by assumption) ?_
  rotate_left
  · (intro w hSw; (try dsimp only at hSw); go_simp; try with_reducible rfl)
  try simp only [Act.put, List.setIfInBounds_toArray, List.set_cons_zero, List.set_cons_succ]
  refine hm_take (i := 4) (v := ?_) rfl rfl (by kernel_rfl) (by kernel_rfl) (by kernel_rfl) (fun _ _ _ h => h) rfl ?_ (by assumption) ?_
  rotate_left
  · (intro w hSw; (try dsimp only at hSw); go_simp; try with_reducible rfl)
  try simp only [Act.put, List.setIfInBounds_toArray, List.set_cons_zero, List.set_cons_succ]
  refine hm_take (i := 5) (v := ?_) rfl rfl (by kernel_rfl) (by kernel_rfl) (by kernel_rfl) (fun _ _ _ h => h) rfl ?_ (by assumption) ?_
  rotate_left
  · (intro w hSw; (try dsimp only at hSw); go_simp; try with_reducible rfl)
  try simp only [Act.put, List.setIfInBounds_toArray, List.set_cons_zero, List.set_cons_succ]
  refine hm_call (i := 6) rfl (by kernel_rfl) rfl (fun K hK => ?_)
  go_simp
  (go_at_call 56; refine (putU64_any _ 8 _ _ x.c _ (by omega) ((World.there_drew _ _ _ _).2 (there_part H.here (by omega)))).mono ?_; rintro e w' ⟨rfl, rfl⟩)
  (try go_wp2_with fail)
  refine hK.out _ _ (by (try dsimp only); exact (H.put hb hg (Lib.beBytes 8 x.c.toNat) (by simp [be_len]) _).at4.c2) (fun hHeld => ?_)
  clear hK K
  try simp only [Act.put, List.setIfInBounds_toArray, List.set_cons_zero, List.set_cons_succ]
  refine wpAnyH_done (by kernel_rfl) ?_ _
  refine NoPanic.normal ?_
  have H2 := H.put hb hg (Lib.beBytes 8 x.c.toNat) (by simp [be_len]) (.cells #[] 77)
  clear H hw hHeld
  simp only [List.nil_append, List.length_append, be_len, List.length_nil, Nat.reduceAdd] at H2
  revert H2
  generalize World.setCells _ _ _ _ = W1
  intro H
  have hw := H.at4.c1
  go_wp2
  refine wp_region_noPanic ?_
  refine wp_region_held_drew (S := (fun w' => w'.cell? ⟨b, o + 1, none⟩ = some (V x.b))) (by kernel_rfl) (by exact hw) (fun hHeld => ?_)
  refine hm_take (i := 0) (v := ?_) rfl rfl (by kernel_rfl) (by kernel_rfl) (by kernel_rfl) (fun _ _ _ h => h) rfl ?_ (by assumption) ?_
  rotate_left
  · (intro w hSw; (try dsimp only at hSw); go_simp; try with_reducible rfl)
  try simp only [Act.put, List.setIfInBounds_toArray, List.set_cons_zero, List.set_cons_succ]
  refine hm_take (i := 1) (v := ?_) rfl rfl (by kernel_rfl) (by kernel_rfl) (by kernel_rfl) (fun _ _ _ h => h) rfl ?_ (by assumption) ?_
  rotate_left
  · (intro w hSw; (try dsimp only at hSw); go_simp; try with_reducible rfl)
  try simp only [Act.put, List.setIfInBounds_toArray, List.set_cons_zero, List.set_cons_succ]
  refine hm_take (i := 2) (v := ?_) rfl rfl (by kernel_rfl) (by kernel_rfl) (by kernel_rfl) (fun _ _ _ h => h) rfl ?_ (by assumption) ?_
  rotate_left
  · (intro w hSw; (try dsimp only at hSw); go_simp; try with_reducible rfl)
  try simp only [Act.put, List.setIfInBounds_toArray, List.set_cons_zero, List.set_cons_succ]
  refine hm_take (i := 3) (v := ?_) rfl rfl (by kernel_rfl) (by kernel_rfl) (by kernel_rfl) (fun _ _ _ h => h) rfl ?_ (by assumption) ?_
  rotate_left
  · (intro w hSw; (try dsimp only at hSw); go_simp; try with_reducible rfl)
  try simp only [Act.put, List.setIfInBounds_toArray, List.set_cons_zero, List.set_cons_succ]
  refine hm_take (i := 4) (v := ?_) rfl rfl (by kernel_rfl) (by kernel_rfl) (by kernel_rfl) (fun _ _ _ h => h) rfl ?_ (by assumption) ?_
  rotate_left
  · (intro w hSw; (try dsimp only at hSw); go_simp; try with_reducible rfl)
  try simp only [Act.put, List.setIfInBounds_toArray, List.set_cons_zero, List.set_cons_succ]
  refine hm_take (i := 5) (v := ?_) rfl rfl (by kernel_rfl) (by kernel_rfl) (by kernel_rfl) (fun _ _ _ h => h) rfl ?_ (by assumption) ?_
  rotate_left
  · (intro w hSw; (try dsimp only at hSw); go_simp; try with_reducible rfl)
  try simp only [Act.put, List.setIfInBounds_toArray, List.set_cons_zero, List.set_cons_succ]
  refine hm_call (i := 6) rfl (by kernel_rfl) rfl (fun K hK => ?_)
  go_simp
  (go_at_call 56; refine (putU64_any _ 16 _ _ x.b _ (by omega) ((World.there_drew _ _ _ _).2 (there_part H.here (by omega)))).mono ?_; rintro e w' ⟨rfl, rfl⟩)
  (try go_wp2_with fail)
  refine hK.out _ _ (by (try dsimp only); exact (H.put hb hg (Lib.beBytes 8 x.b.toNat) (by simp [be_len]) _).at4.c1) (fun hHeld => ?_)
  clear hK K
  try simp only [Act.put, List.setIfInBounds_toArray, List.set_cons_zero, List.set_cons_succ]
  refine wpAnyH_done (by kernel_rfl) ?_ _
  refine NoPanic.normal ?_
  have H2 := H.put hb hg (Lib.beBytes 8 x.b.toNat) (by simp [be_len]) (.cells #[] 77)
  clear H hw hHeld
  simp only [List.nil_append, List.length_append, be_len, List.length_nil, Nat.reduceAdd] at H2
  revert H2
  generalize World.setCells _ _ _ _ = W1
  intro H
  have hw := H.at4.c0
  go_wp2
  refine wp_region_noPanic ?_
  refine wp_region_held_drew (S := (fun w' => w'.cell? ⟨b, o, none⟩ = some (V x.a))) (by kernel_rfl) (by exact hw) (fun hHeld => ?_)
  refine hm_take (i := 0) (v := ?_) rfl rfl (by kernel_rfl) (by kernel_rfl) (by kernel_rfl) (fun _ _ _ h => h) rfl ?_ (by assumption) ?_
  rotate_left
  · (intro w hSw; (try dsimp only at hSw); go_simp; try with_reducible rfl)
  try simp only [Act.put, List.setIfInBounds_toArray, List.set_cons_zero, List.set_cons_succ]
  refine hm_take (i := 1) (v := ?_) rfl rfl (by kernel_rfl) (by kernel_rfl) (by kernel_rfl) (fun _ _ _ h => h) rfl ?_ (by assumption) ?_
  rotate_left
  · (intro w hSw; (try dsimp only at hSw); go_simp; try with_reducible rfl)
  try simp only [Act.put, List.setIfInBounds_toArray, List.set_cons_zero, List.set_cons_succ]
  refine hm_take (i := 2) (v := ?_) rfl rfl (by kernel_rfl) (by kernel_rfl) (by kernel_rfl) (fun _ _ _ h => h) rfl ?_ (by assumption) ?_
  rotate_left
  · (intro w hSw; (try dsimp only at hSw); go_simp; try with_reducible rfl)
  try simp only [Act.put, List.setIfInBounds_toArray, List.set_cons_zero, List.set_cons_succ]
  refine hm_take (i := 3) (v := ?_) rfl rfl (by kernel_rfl) (by kernel_rfl) (by kernel_rfl) (fun _ _ _ h => h) rfl ?_ (by assumption) ?_
  rotate_left
  · (intro w hSw; (try dsimp only at hSw); go_simp; try with_reducible rfl)
  try simp only [Act.put, List.setIfInBounds_toArray, List.set_cons_zero, List.set_cons_succ]
  refine hm_take (i := 4) (v := ?_) rfl rfl (by kernel_rfl) (by kernel_rfl) (by kernel_rfl) (fun _ _ _ h => h) rfl ?_ (by assumption) ?_
  rotate_left
  · (intro w hSw; (try dsimp only at hSw); go_simp; try with_reducible rfl)
  try simp only [Act.put, List.setIfInBounds_toArray, List.set_cons_zero, List.set_cons_succ]
  refine hm_take (i := 5) (v := ?_) rfl rfl (by kernel_rfl) (by kernel_rfl) (by kernel_rfl) (fun _ _ _ h => h) rfl ?_ (by assumption) ?_
  rotate_left
  · (intro w hSw; (try dsimp only at hSw); go_simp; try with_reducible rfl)
  try simp only [Act.put, List.setIfInBounds_toArray, List.set_cons_zero, List.set_cons_succ]
  refine hm_call (i := 6) rfl (by kernel_rfl) rfl (fun K hK => ?_)
  go_simp
  (go_at_call 56; refine (putU64_any _ 24 _ _ x.a _ (by omega) ((World.there_drew _ _ _ _).2 (there_part H.here (by omega)))).mono ?_; rintro e w' ⟨rfl, rfl⟩)
  (try go_wp2_with fail)
  refine hK.out _ _ (by (try dsimp only); exact (H.put hb hg (Lib.beBytes 8 x.a.toNat) (by simp [be_len]) _).at4.c0) (fun hHeld => ?_)
  clear hK K
  try simp only [Act.put, List.setIfInBounds_toArray, List.set_cons_zero, List.set_cons_succ]
  refine wpAnyH_done (by kernel_rfl) ?_ _
  refine NoPanic.normal ?_
  have H2 := H.put hb hg (Lib.beBytes 8 x.a.toNat) (by simp [be_len]) (.cells #[] 77)
  clear H hw hHeld
  simp only [List.nil_append, List.length_append, be_len, List.length_nil, Nat.reduceAdd] at H2
  revert H2
  generalize World.setCells _ _ _ _ = W1
  intro H
  have hrow := H.row
  rw [be32_words] at hrow
  have hres := H.res
  have hbel := H.bel
  clear H
  go_wp2_with (first | (refine wpList_load_mid rfl 56 _ rfl (w.heap.size + 1) 0 rfl (Lib.byteCells (Lib.beBytes 32 x.toNat)) _ hrow Try.underlying56 rfl (by kernel_rfl) ?_) | (refine wpList_store_mid rfl 56 _ _ rfl w.heap.size 0 (Lib.byteCells (Lib.beBytes 32 x.toNat)).toArray rfl rfl (by simpa [bytes_len, be_len] using hres) (by kernel_rfl) (bytes_one _) ?_))
  refine bodyPost_ret (v := .agg (Lib.byteCells (Lib.beBytes 32 x.toNat)).toArray) (results_cell_mid rfl _ _ w.heap.size (Lib.byteCells (Lib.beBytes 32 x.toNat)) _ rfl (World.rangeAt_setCells_same W1 w.heap.size 0 (Lib.byteCells (Lib.beBytes 32 x.toNat)) (by simpa [bytes_len, be_len] using hres)) Try.underlying56 rfl (by kernel_rfl)) rfl (retBel rfl ?_)
  exact setCells_bel' hbel (Nat.le_refl _)
set_option maxHeartbeats 4000000 in
theorem bytes20_any (b o : Nat) (x : N4) (w : World) (hx : At4 w b o x) : Calls Try.prog 46 #[.pointer (some ⟨b, o, none⟩)] w (RetBel (.agg (Lib.byteCells (Lib.beBytes 20 x.toNat)).toArray) w) := by
  have hb := hx.lt
  go_enter Try.func46, Try.ntmps46
  go_wp2
  have hg : w.heap.size ≤ w.heap.size + 1 := Nat.le_succ _
  have H := Fill.start w b o x hx 20 (Array.mk [Value.int .u8 0, Value.int .u8 0, Value.int .u8 0, Value.int .u8 0, Value.int .u8 0, Value.int .u8 0, Value.int .u8 0, Value.int .u8 0, Value.int .u8 0, Value.int .u8 0, Value.int .u8 0, Value.int .u8 0, Value.int .u8 0, Value.int .u8 0, Value.int .u8 0, Value.int .u8 0, Value.int .u8 0, Value.int .u8 0, Value.int .u8 0, Value.int .u8 0]) rfl 61
  have hw := H.at4.c2
  have hcv : IntKind.u32.wrap (U x.c) = ((x.c.toNat % 4294967296 : Nat) : Int) := u32_of x.c
  go_wp2
  refine wp_region_noPanic ?_
  refine wp_region_held_drew (S := (fun w' => w'.cell? ⟨b, o + 2, none⟩ = some (V x.c))) (by kernel_rfl) (by exact hw) (fun hHeld => ?_)
  refine hm_take (i := 0) (v := ?_) rfl rfl (by kernel_rfl) (by kernel_rfl) (by kernel_rfl) (fun _ _ _ h => h) rfl ?_ (by assumption) ?_
  rotate_left
  · (intro w hSw; (try dsimp only at hSw); go_simp; try with_reducible rfl)
  try simp only [Act.put, List.setIfInBounds_toArray, List.set_cons_zero, List.set_cons_succ]
  refine hm_take (i := 1) (v := ?_) rfl rfl (by kernel_rfl) (by kernel_rfl) (by kernel_rfl) (fun _ _ _ h => h) rfl ?_ (by assumption) ?_
  rotate_left
  · (intro w hSw; (try dsimp only at hSw); go_simp; try with_reducible rfl)
  try simp only [Act.put, List.setIfInBounds_toArray, List.set_cons_zero, List.set_cons_succ]
  refine hm_take (i := 2) (v := ?_) rfl rfl (by kernel_rfl) (by kernel_rfl) (by kernel_rfl) (fun _ _ _ h => h) rfl ?_ (by assumption) ?_
  rotate_left
  · (intro w hSw; (try dsimp only at hSw); go_simp; try with_reducible rfl)
  try simp only [Act.put, List.setIfInBounds_toArray, List.set_cons_zero, List.set_cons_succ]
  refine hm_take (i := 3) (v := ?_) rfl rfl (by kernel_rfl) (by kernel_rfl) (by kernel_rfl) (fun _ _ _ h => h) rfl ?_ (by assumption) ?_
  rotate_left
  · (intro w hSw; (try dsimp only at hSw); go_simp; try with_reducible rfl)
  try simp only [Act.put, List.setIfInBounds_toArray, List.set_cons_zero, List.set_cons_succ]
  refine hm_take (i := 4) (v := ?_) rfl rfl (by kernel_rfl) (by kernel_rfl) (by kernel_rfl) (fun _ _ _ h => h) rfl ?_ (by assumption) ?_
  rotate_left
  · (intro w hSw; (try dsimp only at hSw); go_simp; try with_reducible rfl)
  try simp only [Act.put, List.setIfInBounds_toArray, List.set_cons_zero, List.set_cons_succ]
  refine hm_take (i := 5) (v := ?_) rfl rfl (by kernel_rfl) (by kernel_rfl) (by kernel_rfl) (fun _ _ _ h => h) rfl ?_ (by assumption) ?_
  rotate_left
  · (intro w hSw; (try dsimp only at hSw); go_simp; try with_reducible rfl)
  try simp only [Act.put, List.setIfInBounds_toArray, List.set_cons_zero, List.set_cons_succ]
  refine hm_take (i := 6) (v := ?_) rfl rfl (by kernel_rfl) (by kernel_rfl) (by kernel_rfl) (fun _ _ _ h => h) rfl ?_ (by assumption) ?_
  rotate_left
  · (intro w hSw; (try dsimp only at hSw); go_simp; try with_reducible rfl)
  try simp only [Act.put, List.setIfInBounds_toArray, List.set_cons_zero, List.set_cons_succ]
  refine hm_call (i := 7) rfl (by kernel_rfl) rfl (fun K hK => ?_)
  go_simp
  (go_at_call 59; refine (putU32_nat _ 0 _ _ (x.c.toNat % 4294967296) (by omega) _ (by omega) ((World.there_drew _ _ _ _).2 (there_part H.here (by omega)))).mono ?_; rintro e w' ⟨rfl, rfl⟩)
  (try go_wp2_with fail)
  refine hK.out _ _ (by (try dsimp only); exact (H.put hb hg (Lib.beBytes 4 (x.c.toNat % 4294967296)) (by simp [be_len]) _).at4.c2) (fun hHeld => ?_)
  clear hK K
  try simp only [Act.put, List.setIfInBounds_toArray, List.set_cons_zero, List.set_cons_succ]
  refine wpAnyH_done (by kernel_rfl) ?_ _
  refine NoPanic.normal ?_
  have H2 := H.put hb hg (Lib.beBytes 4 (x.c.toNat % 4294967296)) (by simp [be_len]) (.cells #[] 77)
  clear H hw hcv hHeld
  simp only [List.nil_append, List.length_append, be_len, List.length_nil, Nat.reduceAdd] at H2
  revert H2
  generalize World.setCells _ _ _ _ = W1
  intro H
  have hw := H.at4.c1
  go_wp2
  refine wp_region_noPanic ?_
  refine wp_region_held_drew (S := (fun w' => w'.cell? ⟨b, o + 1, none⟩ = some (V x.b))) (by kernel_rfl) (by exact hw) (fun hHeld => ?_)
  refine hm_take (i := 0) (v := ?_) rfl rfl (by kernel_rfl) (by kernel_rfl) (by kernel_rfl) (fun _ _ _ h => h) rfl ?_ (by assumption) ?_
  rotate_left
  · (intro w hSw; (try dsimp only at hSw); go_simp; try with_reducible rfl)
  try simp only [Act.put, List.setIfInBounds_toArray, List.set_cons_zero, List.set_cons_succ]
  refine hm_take (i := 1) (v := ?_) rfl rfl (by kernel_rfl) (by kernel_rfl) (by kernel_rfl) (fun _ _ _ h => h) rfl ?_ (by assumption) ?_
  rotate_left
  · (intro w hSw; (try dsimp only at hSw); go_simp; try with_reducible rfl)
  try simp only [Act.put, List.setIfInBounds_toArray, List.set_cons_zero, List.set_cons_succ]
  refine hm_take (i := 2) (v := ?_) rfl rfl (by kernel_rfl) (by kernel_rfl) (by kernel_rfl) (fun _ _ _ h => h) rfl ?_ (by assumption) ?_
  rotate_left
  · (intro w hSw; (try dsimp only at hSw); go_simp; try with_reducible rfl)
  try simp only [Act.put, List.setIfInBounds_toArray, List.set_cons_zero, List.set_cons_succ]
  refine hm_take (i := 3) (v := ?_) rfl rfl (by kernel_rfl) (by kernel_rfl) (by kernel_rfl) (fun _ _ _ h => h) rfl ?_ (by assumption) ?_
  rotate_left
  · (intro w hSw; (try dsimp only at hSw); go_simp; try with_reducible rfl)
  try simp only [Act.put, List.setIfInBounds_toArray, List.set_cons_zero, List.set_cons_succ]
  refine hm_take (i := 4) (v := ?_) rfl rfl (by kernel_rfl) (by kernel_rfl) (by kernel_rfl) (fun _ _ _ h => h) rfl ?_ (by assumption) ?_
  rotate_left
  · (intro w hSw; (try dsimp only at hSw); go_simp; try with_reducible rfl)
  try simp only [Act.put, List.setIfInBounds_toArray, List.set_cons_zero, List.set_cons_succ]
  refine hm_take (i := 5) (v := ?_) rfl rfl (by kernel_rfl) (by kernel_rfl) (by kernel_rfl) (fun _ _ _ h => h) rfl ?_ (by assumption) ?_
  rotate_left
  · (intro w hSw; (try dsimp only at hSw); go_simp; try with_reducible rfl)
  try simp only [Act.put, List.setIfInBounds_toArray, List.set_cons_zero, List.set_cons_succ]
  refine hm_call (i := 6) rfl (by kernel_rfl) rfl (fun K hK => ?_)
  go_simp
  (go_at_call 56; refine (putU64_any _ 4 _ _ x.b _ (by omega) ((World.there_drew _ _ _ _).2 (there_part H.here (by omega)))).mono ?_; rintro e w' ⟨rfl, rfl⟩)
  (try go_wp2_with fail)
  refine hK.out _ _ (by (try dsimp only); exact (H.put hb hg (Lib.beBytes 8 x.b.toNat) (by simp [be_len]) _).at4.c1) (fun hHeld => ?_)
  clear hK K
  try simp only [Act.put, List.setIfInBounds_toArray, List.set_cons_zero, List.set_cons_succ]
  refine wpAnyH_done (by kernel_rfl) ?_ _
  refine NoPanic.normal ?_
  have H2 := H.put hb hg (Lib.beBytes 8 x.b.toNat) (by simp [be_len]) (.cells #[] 77)
  clear H hw hHeld
  simp only [List.nil_append, List.length_append, be_len, List.length_nil, Nat.reduceAdd] at H2
  revert H2
  generalize World.setCells _ _ _ _ = W1
  intro H
  have hw := H.at4.c0
  go_wp2
  refine wp_region_noPanic ?_
  refine wp_region_held_drew (S := (fun w' => w'.cell? ⟨b, o, none⟩ = some (V x.a))) (by kernel_rfl) (by exact hw) (fun hHeld => ?_)
  refine hm_take (i := 0) (v := ?_) rfl rfl (by kernel_rfl) (by kernel_rfl) (by kernel_rfl) (fun _ _ _ h => h) rfl ?_ (by assumption) ?_
  rotate_left
  · (intro w hSw; (try dsimp only at hSw); go_simp; try with_reducible rfl)
  try simp only [Act.put, List.setIfInBounds_toArray, List.set_cons_zero, List.set_cons_succ]
  refine hm_take (i := 1) (v := ?_) rfl rfl (by kernel_rfl) (by kernel_rfl) (by kernel_rfl) (fun _ _ _ h => h) rfl ?_ (by assumption) ?_
  rotate_left
  · (intro w hSw; (try dsimp only at hSw); go_simp; try with_reducible rfl)
  try simp only [Act.put, List.setIfInBounds_toArray, List.set_cons_zero, List.set_cons_succ]
  refine hm_take (i := 2) (v := ?_) rfl rfl (by kernel_rfl) (by kernel_rfl) (by kernel_rfl) (fun _ _ _ h => h) rfl ?_ (by assumption) ?_
  rotate_left
  · (intro w hSw; (try dsimp only at hSw); go_simp; try with_reducible rfl)
  try simp only [Act.put, List.setIfInBounds_toArray, List.set_cons_zero, List.set_cons_succ]
  refine hm_take (i := 3) (v := ?_) rfl rfl (by kernel_rfl) (by kernel_rfl) (by kernel_rfl) (fun _ _ _ h => h) rfl ?_ (by assumption) ?_
  rotate_left
  · (intro w hSw; (try dsimp only at hSw); go_simp; try with_reducible rfl)
  try simp only [Act.put, List.setIfInBounds_toArray, List.set_cons_zero, List.set_cons_succ]
  refine hm_take (i := 4) (v := ?_) rfl rfl (by kernel_rfl) (by kernel_rfl) (by kernel_rfl) (fun _ _ _ h => h) rfl ?_ (by assumption) ?_
  rotate_left
  · (intro w hSw; (try dsimp only at hSw); go_simp; try with_reducible rfl)
  try simp only [Act.put, List.setIfInBounds_toArray, List.set_cons_zero, List.set_cons_succ]
  refine hm_take (i := 5) (v := ?_) rfl rfl (by kernel_rfl) (by kernel_rfl) (by kernel_rfl) (fun _ _ _ h => h) rfl ?_ (by assumption) ?_
  rotate_left
  · (intro w hSw; (try dsimp only at hSw); go_simp; try with_reducible rfl)
  try simp only [Act.put, List.setIfInBounds_toArray, List.set_cons_zero, List.set_cons_succ]
  refine hm_call (i := 6) rfl (by kernel_rfl) rfl (fun K hK => ?_)
  go_simp
  (go_at_call 56; refine (putU64_any _ 12 _ _ x.a _ (by omega) ((World.there_drew _ _ _ _).2 (there_part H.here (by omega)))).mono ?_; rintro e w' ⟨rfl, rfl⟩)
  (try go_wp2_with fail)
  refine hK.out _ _ (by (try dsimp only); exact (H.put hb hg (Lib.beBytes 8 x.a.toNat) (by simp [be_len]) _).at4.c0) (fun hHeld => ?_)
  clear hK K
  try simp only [Act.put, List.setIfInBounds_toArray, List.set_cons_zero, List.set_cons_succ]
  refine wpAnyH_done (by kernel_rfl) ?_ _
  refine NoPanic.normal ?_
  have H2 := H.put hb hg (Lib.beBytes 8 x.a.toNat) (by simp [be_len]) (.cells #[] 77)
  clear H hw hHeld
  simp only [List.nil_append, List.length_append, be_len, List.length_nil, Nat.reduceAdd] at H2
  revert H2
  generalize World.setCells _ _ _ _ = W1
  intro H
  have hrow := H.row
  rw [be20_words] at hrow
  have hres := H.res
  have hbel := H.bel
  clear H
  go_wp2_with (first | (refine wpList_load_mid rfl 61 _ rfl (w.heap.size + 1) 0 rfl (Lib.byteCells (Lib.beBytes 20 x.toNat)) _ hrow Try.underlying61 rfl (by kernel_rfl) ?_) | (refine wpList_store_mid rfl 61 _ _ rfl w.heap.size 0 (Lib.byteCells (Lib.beBytes 20 x.toNat)).toArray rfl rfl (by simpa [bytes_len, be_len] using hres) (by kernel_rfl) (bytes_one _) ?_))
  refine bodyPost_ret (v := .agg (Lib.byteCells (Lib.beBytes 20 x.toNat)).toArray) (results_cell_mid rfl _ _ w.heap.size (Lib.byteCells (Lib.beBytes 20 x.toNat)) _ rfl (World.rangeAt_setCells_same W1 w.heap.size 0 (Lib.byteCells (Lib.beBytes 20 x.toNat)) (by simpa [bytes_len, be_len] using hres)) Try.underlying61 rfl (by kernel_rfl)) rfl (retBel rfl ?_)
  exact setCells_bel' hbel (Nat.le_refl _)
set_option maxHeartbeats 400000 in
theorem byteLen_any (b o : Nat) (x : N4) (w : World) (hx : At4 w b o x) : Calls Try.prog 58 #[.pointer (some ⟨b, o, none⟩)] w fun e w' => e = .returned (.int .i64 (x.nb : Nat)) ∧ w = w' := by
  have hb := (bits_spec x).2.2
  have e : Hid ((((x.bits : Nat) : Int) + 7) / 8 = ((x.nb : Nat) : Int)) := by show (((x.bits : Nat) : Int) + 7) / 8 = _; unfold N4.nb; omega
  go_enter Try.func58, Try.ntmps58
  go_wp2_with fail
  refine (bitLen_any b o x _ hx).mono ?_
  rintro e1 w' ⟨rfl, hw⟩
  subst hw
  go_wp2
  go_ret
  rw [← e.out]
  exact ⟨rfl, rfl⟩
theorem range_drop {w : World} {g o : Nat} {cs : List Value} (h : w.rangeAt g o cs) (k : Nat) (hk : k ≤ cs.length) : w.rangeAt g (o + k) (cs.drop k) := fun j v hj => by
  rw [List.getElem?_drop] at hj
  have := h _ v hj
  rwa [← Nat.add_assoc] at this
theorem slice32 (g k : Nat) (hk : k < 32) (w : World) : (Instr.sliceAt 56 (.pointer (some ⟨g, 0, none⟩)) (some (.int .i64 (k : Int))) none none).run Try.prog w = .ok (.slice (some ⟨g, k, none⟩) (32 - k) (32 - k)) w := by
  have hl : Try.prog.arrayLen 56 = 32 := by kernel_rfl
  have hs : (sizeOf (Try.prog.elem 56)).run Try.prog w = .ok 1 w := by kernel_rfl
  rw [run_sliceAt_array_l w _ ⟨g, 0, none⟩ (by kernel_rfl) .i64 _ (by omega) (by rw [hl]; omega), hl, hs]
  simp only [Result.andThen_ok, slicedAt, Int.toNat_natCast]
  rw [if_neg (by omega)]
  simp [Addr.add]
  exact fun h => h.symm
set_option maxHeartbeats 1000000 in
theorem bytesInt_any (b o : Nat) (x : N4) (w : World) (hx : At4 w b o x) : Calls Try.prog 44 #[.pointer (some ⟨b, o, none⟩)] w (RetSlB (Lib.beBytes x.nb x.toNat) w) := by
  have hnb := nb_le x
  go_enter Try.func44, Try.ntmps44
  go_wp2_with fail
  refine (bytes32_any b o x _ hx).mono ?_
  rintro e w1 ⟨rfl, hb⟩
  have hth := there_new w1 56 #[Value.int .u8 0, Value.int .u8 0, Value.int .u8 0, Value.int .u8 0, Value.int .u8 0, Value.int .u8 0, Value.int .u8 0, Value.int .u8 0, Value.int .u8 0, Value.int .u8 0, Value.int .u8 0, Value.int .u8 0, Value.int .u8 0, Value.int .u8 0, Value.int .u8 0, Value.int .u8 0, Value.int .u8 0, Value.int .u8 0, Value.int .u8 0, Value.int .u8 0, Value.int .u8 0, Value.int .u8 0, Value.int .u8 0, Value.int .u8 0, Value.int .u8 0, Value.int .u8 0, Value.int .u8 0, Value.int .u8 0, Value.int .u8 0, Value.int .u8 0, Value.int .u8 0, Value.int .u8 0] (Lib.byteCells (Lib.beBytes 32 x.toNat)).toArray.size (by simp [bytes_len, be_len])
  go_wp2_with (refine wpList_store_mid (op := ⟨none, Op.store 56 (.tmp 3) (.tmp 5), _, _, _, _⟩) rfl 56 _ _ rfl w1.heap.size 0 (Lib.byteCells (Lib.beBytes 32 x.toNat)).toArray rfl rfl hth (by kernel_rfl) (bytes_one _) ?_)
  have hlt : b < w1.heap.size := Nat.lt_of_lt_of_le hx.lt hb.size
  have hat : At4 ((w1.alloc (.cells #[Value.int .u8 0, Value.int .u8 0, Value.int .u8 0, Value.int .u8 0, Value.int .u8 0, Value.int .u8 0, Value.int .u8 0, Value.int .u8 0, Value.int .u8 0, Value.int .u8 0, Value.int .u8 0, Value.int .u8 0, Value.int .u8 0, Value.int .u8 0, Value.int .u8 0, Value.int .u8 0, Value.int .u8 0, Value.int .u8 0, Value.int .u8 0, Value.int .u8 0, Value.int .u8 0, Value.int .u8 0, Value.int .u8 0, Value.int .u8 0, Value.int .u8 0, Value.int .u8 0, Value.int .u8 0, Value.int .u8 0, Value.int .u8 0, Value.int .u8 0, Value.int .u8 0, Value.int .u8 0] 56)).setCells w1.heap.size 0 (Lib.byteCells (Lib.beBytes 32 x.toNat))) b o x := ((hx.bel hb).alloc _).setFar4 (by omega)
  have hrow := World.rangeAt_setCells_same (w1.alloc (.cells #[Value.int .u8 0, Value.int .u8 0, Value.int .u8 0, Value.int .u8 0, Value.int .u8 0, Value.int .u8 0, Value.int .u8 0, Value.int .u8 0, Value.int .u8 0, Value.int .u8 0, Value.int .u8 0, Value.int .u8 0, Value.int .u8 0, Value.int .u8 0, Value.int .u8 0, Value.int .u8 0, Value.int .u8 0, Value.int .u8 0, Value.int .u8 0, Value.int .u8 0, Value.int .u8 0, Value.int .u8 0, Value.int .u8 0, Value.int .u8 0, Value.int .u8 0, Value.int .u8 0, Value.int .u8 0, Value.int .u8 0, Value.int .u8 0, Value.int .u8 0, Value.int .u8 0, Value.int .u8 0] 56)) w1.heap.size 0 (Lib.byteCells (Lib.beBytes 32 x.toNat)) (by simpa using hth)
  have hbel : Below w.heap.size w ((w1.alloc (.cells #[Value.int .u8 0, Value.int .u8 0, Value.int .u8 0, Value.int .u8 0, Value.int .u8 0, Value.int .u8 0, Value.int .u8 0, Value.int .u8 0, Value.int .u8 0, Value.int .u8 0, Value.int .u8 0, Value.int .u8 0, Value.int .u8 0, Value.int .u8 0, Value.int .u8 0, Value.int .u8 0, Value.int .u8 0, Value.int .u8 0, Value.int .u8 0, Value.int .u8 0, Value.int .u8 0, Value.int .u8 0, Value.int .u8 0, Value.int .u8 0, Value.int .u8 0, Value.int .u8 0, Value.int .u8 0, Value.int .u8 0, Value.int .u8 0, Value.int .u8 0, Value.int .u8 0, Value.int .u8 0] 56)).setCells w1.heap.size 0 (Lib.byteCells (Lib.beBytes 32 x.toNat))) := setCells_bel' (bel_alloc hb _) hb.size
  clear hth
  have HR := Lib.hid hrow
  clear hrow
  go_wp2_with fail
  refine (byteLen_any b o x _ hat).mono ?_
  rintro e w2 ⟨rfl, rfl⟩
  by_cases hz : x.nb = 0
  · have HZ := Lib.hid hz
    clear hz hnb
    have HZ2 := HZ.out
    go_wp2
    go_ret
    exact ⟨_, rfl, by rw [HZ.out]; exact ⟨_, 0, rfl, Nat.le_refl _, fun i d hd => by simp [Lib.beBytes, Lib.leBytes] at hd⟩, hbel⟩
  · obtain ⟨k, hk0⟩ : ∃ k, k + x.nb = 32 := ⟨32 - x.nb, by omega⟩
    have hk : (32 : Int) - ((x.nb : Nat) : Int) = ((k : Nat) : Int) := by omega
    have hk2 : k < 32 := by omega
    have HK := Lib.hid hk0
    clear hk0 hz hnb
    have hsl := slice32 w1.heap.size k hk2
    go_wp2
    go_ret
    have e : x.nb = 32 - k := by have := HK.out; omega
    refine ⟨_, rfl, SlB.of_range (g := w1.heap.size) (o := k) ?_ (by rw [be_len, e]) (Nat.le_refl _), hbel⟩
    have h := range_drop HR.out k (by rw [bytes_len, be_len]; omega)
    rw [Nat.zero_add] at h
    have e2 : (Lib.byteCells (Lib.beBytes 32 x.toNat)).drop k = Lib.byteCells (Lib.beBytes x.nb x.toNat) := by
      unfold Lib.byteCells
      rw [← List.map_drop, e, ← be_drop' (m := 32) (n := 32 - k) (by omega), show 32 - (32 - k) = k by omega]
    rw [e2] at h
    exact h
set_option maxHeartbeats 1000000 in
theorem implBytes32_any (x : N4) (w : World) : Calls Try.prog 24 #[x.v] w (RetSlB (Lib.beBytes 32 x.toNat) w) := by
  go_enter Try.func24, Try.ntmps24
  go_wp2_with fail
  refine (intOf_any x _).mono ?_
  rintro e w0 ⟨B, rfl, m⟩
  have hb0 := bel_trans (bel_alloc (bel_refl w) _) m.bel
  go_wp2_with fail
  refine (bytes32_any B 0 x _ m.at4).mono ?_
  rintro e w1 ⟨rfl, hb1⟩
  have hb := bel_trans hb0 hb1
  have hth := there_new w1 56 #[Value.int .u8 0, Value.int .u8 0, Value.int .u8 0, Value.int .u8 0, Value.int .u8 0, Value.int .u8 0, Value.int .u8 0, Value.int .u8 0, Value.int .u8 0, Value.int .u8 0, Value.int .u8 0, Value.int .u8 0, Value.int .u8 0, Value.int .u8 0, Value.int .u8 0, Value.int .u8 0, Value.int .u8 0, Value.int .u8 0, Value.int .u8 0, Value.int .u8 0, Value.int .u8 0, Value.int .u8 0, Value.int .u8 0, Value.int .u8 0, Value.int .u8 0, Value.int .u8 0, Value.int .u8 0, Value.int .u8 0, Value.int .u8 0, Value.int .u8 0, Value.int .u8 0, Value.int .u8 0] (Lib.byteCells (Lib.beBytes 32 x.toNat)).toArray.size (by simp [bytes_len, be_len])
  go_wp2_with (refine wpList_store_mid (op := ⟨none, Op.store 56 (.tmp 3) (.tmp 6), _, _, _, _⟩) rfl 56 _ _ rfl w1.heap.size 0 (Lib.byteCells (Lib.beBytes 32 x.toNat)).toArray rfl rfl hth (by kernel_rfl) (bytes_one _) ?_)
  have HR := Lib.hid (World.rangeAt_setCells_same (w1.alloc (.cells #[Value.int .u8 0, Value.int .u8 0, Value.int .u8 0, Value.int .u8 0, Value.int .u8 0, Value.int .u8 0, Value.int .u8 0, Value.int .u8 0, Value.int .u8 0, Value.int .u8 0, Value.int .u8 0, Value.int .u8 0, Value.int .u8 0, Value.int .u8 0, Value.int .u8 0, Value.int .u8 0, Value.int .u8 0, Value.int .u8 0, Value.int .u8 0, Value.int .u8 0, Value.int .u8 0, Value.int .u8 0, Value.int .u8 0, Value.int .u8 0, Value.int .u8 0, Value.int .u8 0, Value.int .u8 0, Value.int .u8 0, Value.int .u8 0, Value.int .u8 0, Value.int .u8 0, Value.int .u8 0] 56)) w1.heap.size 0 (Lib.byteCells (Lib.beBytes 32 x.toNat)) (by simpa using hth))
  have hbel : Below w.heap.size w ((w1.alloc (.cells #[Value.int .u8 0, Value.int .u8 0, Value.int .u8 0, Value.int .u8 0, Value.int .u8 0, Value.int .u8 0, Value.int .u8 0, Value.int .u8 0, Value.int .u8 0, Value.int .u8 0, Value.int .u8 0, Value.int .u8 0, Value.int .u8 0, Value.int .u8 0, Value.int .u8 0, Value.int .u8 0, Value.int .u8 0, Value.int .u8 0, Value.int .u8 0, Value.int .u8 0, Value.int .u8 0, Value.int .u8 0, Value.int .u8 0, Value.int .u8 0, Value.int .u8 0, Value.int .u8 0, Value.int .u8 0, Value.int .u8 0, Value.int .u8 0, Value.int .u8 0, Value.int .u8 0, Value.int .u8 0] 56)).setCells w1.heap.size 0 (Lib.byteCells (Lib.beBytes 32 x.toNat))) := setCells_bel' (bel_alloc hb _) hb.size
  clear hth
  go_wp2
  go_ret
  exact ⟨_, rfl, SlB.of_range (g := w1.heap.size) (o := 0) HR.out (by rw [be_len]) (Nat.le_refl _), hbel⟩
set_option maxHeartbeats 1000000 in
theorem implBytes20_any (x : N4) (w : World) : Calls Try.prog 25 #[x.v] w (RetSlB (Lib.beBytes 20 x.toNat) w) := by
  go_enter Try.func25, Try.ntmps25
  go_wp2_with fail
  refine (intOf_any x _).mono ?_
  rintro e w0 ⟨B, rfl, m⟩
  have hb0 := bel_trans (bel_alloc (bel_refl w) _) m.bel
  go_wp2_with fail
  refine (bytes20_any B 0 x _ m.at4).mono ?_
  rintro e w1 ⟨rfl, hb1⟩
  have hb := bel_trans hb0 hb1
  have hth := there_new w1 61 #[Value.int .u8 0, Value.int .u8 0, Value.int .u8 0, Value.int .u8 0, Value.int .u8 0, Value.int .u8 0, Value.int .u8 0, Value.int .u8 0, Value.int .u8 0, Value.int .u8 0, Value.int .u8 0, Value.int .u8 0, Value.int .u8 0, Value.int .u8 0, Value.int .u8 0, Value.int .u8 0, Value.int .u8 0, Value.int .u8 0, Value.int .u8 0, Value.int .u8 0] (Lib.byteCells (Lib.beBytes 20 x.toNat)).toArray.size (by simp [bytes_len, be_len])
  go_wp2_with (refine wpList_store_mid (op := ⟨none, Op.store 61 (.tmp 3) (.tmp 6), _, _, _, _⟩) rfl 61 _ _ rfl w1.heap.size 0 (Lib.byteCells (Lib.beBytes 20 x.toNat)).toArray rfl rfl hth (by kernel_rfl) (bytes_one _) ?_)
  have HR := Lib.hid (World.rangeAt_setCells_same (w1.alloc (.cells #[Value.int .u8 0, Value.int .u8 0, Value.int .u8 0, Value.int .u8 0, Value.int .u8 0, Value.int .u8 0, Value.int .u8 0, Value.int .u8 0, Value.int .u8 0, Value.int .u8 0, Value.int .u8 0, Value.int .u8 0, Value.int .u8 0, Value.int .u8 0, Value.int .u8 0, Value.int .u8 0, Value.int .u8 0, Value.int .u8 0, Value.int .u8 0, Value.int .u8 0] 61)) w1.heap.size 0 (Lib.byteCells (Lib.beBytes 20 x.toNat)) (by simpa using hth))
  have hbel : Below w.heap.size w ((w1.alloc (.cells #[Value.int .u8 0, Value.int .u8 0, Value.int .u8 0, Value.int .u8 0, Value.int .u8 0, Value.int .u8 0, Value.int .u8 0, Value.int .u8 0, Value.int .u8 0, Value.int .u8 0, Value.int .u8 0, Value.int .u8 0, Value.int .u8 0, Value.int .u8 0, Value.int .u8 0, Value.int .u8 0, Value.int .u8 0, Value.int .u8 0, Value.int .u8 0, Value.int .u8 0] 61)).setCells w1.heap.size 0 (Lib.byteCells (Lib.beBytes 20 x.toNat))) := setCells_bel' (bel_alloc hb _) hb.size
  clear hth
  go_wp2
  go_ret
  exact ⟨_, rfl, SlB.of_range (g := w1.heap.size) (o := 0) HR.out (by rw [be_len]) (Nat.le_refl _), hbel⟩
set_option maxHeartbeats 400000 in
theorem implBytes_any (x : N4) (w : World) : Calls Try.prog 23 #[x.v] w (RetSlB (Lib.beBytes x.nb x.toNat) w) := by
  go_enter Try.func23, Try.ntmps23
  go_wp2_with fail
  refine (intOf_any x _).mono ?_
  rintro e w0 ⟨B, rfl, m⟩
  have hb0 := bel_trans (bel_alloc (bel_refl w) _) m.bel
  go_wp2_with fail
  refine (bytesInt_any B 0 x _ m.at4).mono ?_
  rintro e w1 ⟨v, rfl, hs, hb1⟩
  have HS := Lib.hid hs
  clear hs
  go_wp2
  go_ret
  exact ⟨_, rfl, HS.out, bel_trans hb0 hb1⟩
end Go.Proofs.Ytpmhkmcikjbncaa
