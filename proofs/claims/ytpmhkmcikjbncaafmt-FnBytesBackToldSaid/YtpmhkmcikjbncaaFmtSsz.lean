/-
  Contracts of the SSZ encoders: AppendUint64 (little-endian), MarshalSSZAppend, MarshalSSZ, HashTreeRoot, the thin package's calls of them, and the reference's Small.
-/
import Derived.Test.YtpmhkmcikjbncaaFmtByt3
import Derived.Laws.CopyOwn
namespace Go.Proofs.YtpmhkmcikjbncaaFmt
open Go.RowKit
set_option linter.unusedVariables false
set_option linter.unusedSimpArgs false
set_option maxRecDepth 100000
set_option maxHeartbeats 4000000 in
theorem appU64_nat (B n v : Nat) (hv : v < 18446744073709551616) (sv : Value) (xs : List Value) (w : World) (hown : w.ownsRow B 5 1 sv n xs) (hBw : B ≤ w.heap.size) (hlim : n + 8 ≤ 140737488355328) :
    Calls Tryf.prog 64 #[.agg #[], sv, .int .u64 v] w fun e w' => ∃ v', e = .returned v' ∧ w'.ownsRow B 5 1 v' (n + 8) (xs ++ Lib.byteCells (Lib.leBytes 8 v)) ∧ Below B w w' := by
  obtain ⟨i0, hi, hz0, hz1, hz2⟩ := info_parts Tryf.infoByte
  have e0 : ((v % 256 : Nat) : Int) = (v : Int) % 256 := by omega
  have e1 : ((v / 256 % 256 : Nat) : Int) = (v : Int) / 256 % 256 := by omega
  have e2 : ((v / 256 / 256 % 256 : Nat) : Int) = (v : Int) / 65536 % 256 := by omega
  have e3 : ((v / 256 / 256 / 256 % 256 : Nat) : Int) = (v : Int) / 16777216 % 256 := by omega
  have e4 : ((v / 256 / 256 / 256 / 256 % 256 : Nat) : Int) = (v : Int) / 4294967296 % 256 := by omega
  have e5 : ((v / 256 / 256 / 256 / 256 / 256 % 256 : Nat) : Int) = (v : Int) / 1099511627776 % 256 := by omega
  have e6 : ((v / 256 / 256 / 256 / 256 / 256 / 256 % 256 : Nat) : Int) = (v : Int) / 281474976710656 % 256 := by omega
  have e7 : ((v / 256 / 256 / 256 / 256 / 256 / 256 / 256 % 256 : Nat) : Int) = (v : Int) / 72057594037927936 := by omega
  have hb : Lib.byteCells (Lib.leBytes 8 v) = [Value.int .u8 ((v : Int) % 256), Value.int .u8 ((v : Int) / 256 % 256), Value.int .u8 ((v : Int) / 65536 % 256), Value.int .u8 ((v : Int) / 16777216 % 256), Value.int .u8 ((v : Int) / 4294967296 % 256), Value.int .u8 ((v : Int) / 1099511627776 % 256), Value.int .u8 ((v : Int) / 281474976710656 % 256), Value.int .u8 ((v : Int) / 72057594037927936)] := by
    simp only [Lib.byteCells, Lib.leBytes, List.map, Lib.toUInt8_mod, e0, e1, e2, e3, e4, e5, e6, e7]
  have HB := Lib.hid hb
  have HO := Lib.hid hown
  clear hb hown e0 e1 e2 e3 e4 e5 e6 e7
  go_enter Tryf.func64, Tryf.ntmps64
  go_wp2_with (at_builtin; refine wpList_append_own _ rfl _ _ 22 rfl B 5 i0 (.int .u8 0) 1 1 Tryf.underlying22 hi hz0 hz1 hz2 rfl (by decide) _ _ _ rfl ((HO.out.alloc _).alloc _) _ 8 8 [Value.int .u8 ((v : Int) % 256), Value.int .u8 ((v : Int) / 256 % 256), Value.int .u8 ((v : Int) / 65536 % 256), Value.int .u8 ((v : Int) / 16777216 % 256), Value.int .u8 ((v : Int) / 4294967296 % 256), Value.int .u8 ((v : Int) / 1099511627776 % 256), Value.int .u8 ((v : Int) / 281474976710656 % 256), Value.int .u8 ((v : Int) / 72057594037927936)] rfl rfl ?c1 ?c2 ?c3 ?c4 ?c5 ?_)
  case c1 =>
    intro j u hj
    match j, hj with
    | 0, hj => simp at hj; subst hj; simp [Addr.add]
    | 1, hj => simp at hj; subst hj; simp [Addr.add]
    | 2, hj => simp at hj; subst hj; simp [Addr.add]
    | 3, hj => simp at hj; subst hj; simp [Addr.add]
    | 4, hj => simp at hj; subst hj; simp [Addr.add]
    | 5, hj => simp at hj; subst hj; simp [Addr.add]
    | 6, hj => simp at hj; subst hj; simp [Addr.add]
    | 7, hj => simp at hj; subst hj; simp [Addr.add]
  case c2 => intro u hu; simp at hu; rcases hu with rfl | rfl | rfl | rfl | rfl | rfl | rfl | rfl <;> rfl
  case c3 => unfold maxLen; omega
  case c4 => omega
  case c5 => simp; omega
  intro v' w2 hown' hgrow _
  have H2 := Lib.hid hown'
  clear hown'
  go_wp2
  go_ret
  refine ⟨v', rfl, by rw [HB.out]; exact H2.out, ?_⟩
  exact ((((Below.refl B w).alloc hBw _).alloc (by simp; omega) _).grown hgrow (by simp; omega) (fun k hk => (HO.out.lt k hk).1))
theorem appU64_any (B n : Nat) (x : W64) (sv : Value) (xs : List Value) (w : World) (hown : w.ownsRow B 5 1 sv n xs) (hBw : B ≤ w.heap.size) (hlim : n + 8 ≤ 140737488355328) :
    Calls Tryf.prog 64 #[.agg #[], sv, V x] w fun e w' => ∃ v', e = .returned v' ∧ w'.ownsRow B 5 1 v' (n + 8) (xs ++ Lib.byteCells (Lib.leBytes 8 x.toNat)) ∧ Below B w w' :=
  appU64_nat B n x.toNat x.isLt sv xs w hown hBw hlim
theorem At4.bel' {a b : World} {B c o : Nat} {x : N4} (h : At4 a c o x) (k : Below B a b) (hc : c < B) : At4 b c o x :=
  ⟨(k.cell (p := ⟨c, o, none⟩) hc).trans h.c0, (k.cell (p := ⟨c, o + 1, none⟩) hc).trans h.c1, (k.cell (p := ⟨c, o + 2, none⟩) hc).trans h.c2, (k.cell (p := ⟨c, o + 3, none⟩) hc).trans h.c3⟩
/-- The 32 bytes, the lowest first. -/
theorem le32_words (x : N4) : ((Lib.leBytes 8 x.a.toNat ++ Lib.leBytes 8 x.b.toNat) ++ Lib.leBytes 8 x.c.toNat) ++ Lib.leBytes 8 x.d.toNat = Lib.leBytes 32 x.toNat := by
  have h0 := x.a.isLt; have h1 := x.b.isLt; have h2 := x.c.isLt; have h3 := x.d.isLt
  rw [show (32 : Nat) = 24 + 8 from rfl, le_append, show (24 : Nat) = 16 + 8 from rfl, le_append, show (16 : Nat) = 8 + 8 from rfl, le_append]
  congr 1
  · congr 1
    · congr 1
      · exact le_mod _ _ _ (by unfold N4.toNat; omega)
      · exact le_mod _ _ _ (by unfold N4.toNat; omega)
    · exact le_mod _ _ _ (by unfold N4.toNat; omega)
  · exact le_mod _ _ _ (by unfold N4.toNat; omega)
set_option maxHeartbeats 4000000 in
theorem sszAppend_any (b o : Nat) (x : N4) (B n : Nat) (sv : Value) (xs : List Value) (w : World) (hx : At4 w b o x) (hown : w.ownsRow B 5 1 sv n xs) (hBw : B ≤ w.heap.size) (hlim : n ≤ 4294967296) (hbB : sv.ownBlock ≠ some b) (hbl : b < B) :
    Calls Tryf.prog 26 #[.pointer (some ⟨b, o, none⟩), sv] w fun e w' => ∃ v', e = .returned (.tuple #[v', .nilIface]) ∧ w'.ownsRow B 5 1 v' (n + 32) (xs ++ Lib.byteCells (Lib.leBytes 32 x.toNat)) ∧ Below B w w' := by
  have H0 := Lib.hid hown
  have hb0 : Below B w w := Below.refl _ _
  clear hown
  obtain ⟨x0, x1, x2, x3⟩ := hx
  go_enter Tryf.func26, Tryf.ntmps26
  go_wp2
  have hw : World.cell? _ ⟨b, o, none⟩ = some (V x.a) := (hb0.cell (p := ⟨b, o, none⟩) hbl).trans x0
  refine wp_region_noPanic ?_
  refine wp_region_held_drew (S := (fun w' => w'.cell? ⟨b, o, none⟩ = some (V x.a))) (by kernel_rfl) (by exact hw) (fun hHeld => ?_)
  refine hm_take (i := 0) (v := ?_) rfl rfl (by kernel_rfl) (by kernel_rfl) (by kernel_rfl) (fun _ _ _ h => h) rfl ?_ (by assumption) ?_
  rotate_left
  · (intro w hSw; (try dsimp only at hSw); go_simp; try with_reducible rfl)
  try simp only [Act.put, List.setIfInBounds_toArray, List.set_cons_zero, List.set_cons_succ]
  refine hm_take (i := 1) (v := ?_) rfl rfl (by kernel_rfl) (by kernel_rfl) (by kernel_rfl) (fun _ _ _ h => h) rfl ?_ (by assumption) ?_
  rotate_left
  · (intro w hSw; (try dsimp only at hSw); go_simp; try with_reducible rfl)
  try simp only [Act.put, List.setIfInBounds_toArray, List.set_cons_zero, List.set_cons_succ]
  refine hm_take (i := 2) (v := ?_) rfl rfl (by kernel_rfl) (by kernel_rfl) (by kernel_rfl) (fun _ _ _ h => h) rfl ?_ (by assumption) ?_
  rotate_left
  · (intro w hSw; (try dsimp only at hSw); go_simp; try with_reducible rfl)
  try simp only [Act.put, List.setIfInBounds_toArray, List.set_cons_zero, List.set_cons_succ]
  refine hm_take (i := 3) (v := ?_) rfl rfl (by kernel_rfl) (by kernel_rfl) (by kernel_rfl) (fun _ _ _ h => h) rfl ?_ (by assumption) ?_
  rotate_left
  · (intro w hSw; (try dsimp only at hSw); go_simp; try with_reducible rfl)
  try simp only [Act.put, List.setIfInBounds_toArray, List.set_cons_zero, List.set_cons_succ]
  refine hm_take (i := 4) (v := ?_) rfl rfl (by kernel_rfl) (by kernel_rfl) (by kernel_rfl) (fun _ _ _ h => h) rfl ?_ (by assumption) ?_
  rotate_left
  · (intro w hSw; (try dsimp only at hSw); go_simp; try with_reducible rfl)
  try simp only [Act.put, List.setIfInBounds_toArray, List.set_cons_zero, List.set_cons_succ]
  refine hm_take (i := 5) (v := ?_) rfl rfl (by kernel_rfl) (by kernel_rfl) (by kernel_rfl) (fun _ _ _ h => h) rfl ?_ (by assumption) ?_
  rotate_left
  · (intro w hSw; (try dsimp only at hSw); go_simp; try with_reducible rfl)
  try simp only [Act.put, List.setIfInBounds_toArray, List.set_cons_zero, List.set_cons_succ]
  refine hm_call (i := 6) rfl (by kernel_rfl) rfl (fun K hK => ?_)
  go_simp
  (go_at_call 64; refine (appU64_any B (n + 0) x.a _ _ _ (H0.out.kept (grown_of_bel (bel_drew (bel_refl _))) (by cases hv : Value.ownBlock _ <;> simp)) (Nat.le_trans hBw hb0.size) (by omega)).mono ?_; rintro e w1 ⟨v1, rfl, hown1, hbb1⟩)
  (try go_wp2_with fail)
  refine hK.out _ _ (by (try dsimp only); exact (hbb1.cell (p := ⟨b, o, none⟩) hbl).trans hw) (fun hHeld => ?_)
  clear hK K
  try simp only [Act.put, List.setIfInBounds_toArray, List.set_cons_zero, List.set_cons_succ]
  refine hm_take (i := 7) (v := ?_) rfl rfl (by kernel_rfl) (by kernel_rfl) (by kernel_rfl) (fun _ _ _ h => h) rfl ?_ (by assumption) ?_
  rotate_left
  · (intro w hSw; (try dsimp only at hSw); go_simp; try with_reducible rfl)
  try simp only [Act.put, List.setIfInBounds_toArray, List.set_cons_zero, List.set_cons_succ]
  refine wpAnyH_done (by kernel_rfl) ?_ _
  refine NoPanic.normal ?_
  have hb1 : Below B w w1 := hb0.drew.trans hbb1
  have H1 := Lib.hid hown1
  clear hown1 hbb1 hw H0
  go_wp2
  have hw : World.cell? _ ⟨b, o + 1, none⟩ = some (V x.b) := (hb1.cell (p := ⟨b, o + 1, none⟩) hbl).trans x1
  refine wp_region_noPanic ?_
  refine wp_region_held_drew (S := (fun w' => w'.cell? ⟨b, o + 1, none⟩ = some (V x.b))) (by kernel_rfl) (by exact hw) (fun hHeld => ?_)
  refine hm_take (i := 0) (v := ?_) rfl rfl (by kernel_rfl) (by kernel_rfl) (by kernel_rfl) (fun _ _ _ h => h) rfl ?_ (by assumption) ?_
  rotate_left
  · (intro w hSw; (try dsimp only at hSw); go_simp; try with_reducible rfl)
  try simp only [Act.put, List.setIfInBounds_toArray, List.set_cons_zero, List.set_cons_succ]
  refine hm_take (i := 1) (v := ?_) rfl rfl (by kernel_rfl) (by kernel_rfl) (by kernel_rfl) (fun _ _ _ h => h) rfl ?_ (by assumption) ?_
  rotate_left
  · (intro w hSw; (try dsimp only at hSw); go_simp; try with_reducible rfl)
  try simp only [Act.put, List.setIfInBounds_toArray, List.set_cons_zero, List.set_cons_succ]
  refine hm_take (i := 2) (v := ?_) rfl rfl (by kernel_rfl) (by kernel_rfl) (by kernel_rfl) (fun _ _ _ h => h) rfl ?_ (by assumption) ?_
  rotate_left
  · (intro w hSw; (try dsimp only at hSw); go_simp; try with_reducible rfl)
  try simp only [Act.put, List.setIfInBounds_toArray, List.set_cons_zero, List.set_cons_succ]
  refine hm_take (i := 3) (v := ?_) rfl rfl (by kernel_rfl) (by kernel_rfl) (by kernel_rfl) (fun _ _ _ h => h) rfl ?_ (by assumption) ?_
  rotate_left
  · (intro w hSw; (try dsimp only at hSw); go_simp; try with_reducible rfl)
  try simp only [Act.put, List.setIfInBounds_toArray, List.set_cons_zero, List.set_cons_succ]
  refine hm_take (i := 4) (v := ?_) rfl rfl (by kernel_rfl) (by kernel_rfl) (by kernel_rfl) (fun _ _ _ h => h) rfl ?_ (by assumption) ?_
  rotate_left
  · (intro w hSw; (try dsimp only at hSw); go_simp; try with_reducible rfl)
  try simp only [Act.put, List.setIfInBounds_toArray, List.set_cons_zero, List.set_cons_succ]
  refine hm_take (i := 5) (v := ?_) rfl rfl (by kernel_rfl) (by kernel_rfl) (by kernel_rfl) (fun _ _ _ h => h) rfl ?_ (by assumption) ?_
  rotate_left
  · (intro w hSw; (try dsimp only at hSw); go_simp; try with_reducible rfl)
  try simp only [Act.put, List.setIfInBounds_toArray, List.set_cons_zero, List.set_cons_succ]
  refine hm_call (i := 6) rfl (by kernel_rfl) rfl (fun K hK => ?_)
  go_simp
  (go_at_call 64; refine (appU64_any B (n + 8) x.b _ _ _ (H1.out.kept (grown_of_bel (bel_drew (bel_refl _))) (by cases hv : Value.ownBlock _ <;> simp)) (Nat.le_trans hBw hb1.size) (by omega)).mono ?_; rintro e w2 ⟨v2, rfl, hown2, hbb2⟩)
  (try go_wp2_with fail)
  refine hK.out _ _ (by (try dsimp only); exact (hbb2.cell (p := ⟨b, o + 1, none⟩) hbl).trans hw) (fun hHeld => ?_)
  clear hK K
  try simp only [Act.put, List.setIfInBounds_toArray, List.set_cons_zero, List.set_cons_succ]
  refine hm_take (i := 7) (v := ?_) rfl rfl (by kernel_rfl) (by kernel_rfl) (by kernel_rfl) (fun _ _ _ h => h) rfl ?_ (by assumption) ?_
  rotate_left
  · (intro w hSw; (try dsimp only at hSw); go_simp; try with_reducible rfl)
  try simp only [Act.put, List.setIfInBounds_toArray, List.set_cons_zero, List.set_cons_succ]
  refine wpAnyH_done (by kernel_rfl) ?_ _
  refine NoPanic.normal ?_
  have hb2 : Below B w w2 := hb1.drew.trans hbb2
  have H2 := Lib.hid hown2
  clear hown2 hbb2 hw H1
  go_wp2
  have hw : World.cell? _ ⟨b, o + 2, none⟩ = some (V x.c) := (hb2.cell (p := ⟨b, o + 2, none⟩) hbl).trans x2
  refine wp_region_noPanic ?_
  refine wp_region_held_drew (S := (fun w' => w'.cell? ⟨b, o + 2, none⟩ = some (V x.c))) (by kernel_rfl) (by exact hw) (fun hHeld => ?_)
  refine hm_take (i := 0) (v := ?_) rfl rfl (by kernel_rfl) (by kernel_rfl) (by kernel_rfl) (fun _ _ _ h => h) rfl ?_ (by assumption) ?_
  rotate_left
  · (intro w hSw; (try dsimp only at hSw); go_simp; try with_reducible rfl)
  try simp only [Act.put, List.setIfInBounds_toArray, List.set_cons_zero, List.set_cons_succ]
  refine hm_take (i := 1) (v := ?_) rfl rfl (by kernel_rfl) (by kernel_rfl) (by kernel_rfl) (fun _ _ _ h => h) rfl ?_ (by assumption) ?_
  rotate_left
  · (intro w hSw; (try dsimp only at hSw); go_simp; try with_reducible rfl)
  try simp only [Act.put, List.setIfInBounds_toArray, List.set_cons_zero, List.set_cons_succ]
  refine hm_take (i := 2) (v := ?_) rfl rfl (by kernel_rfl) (by kernel_rfl) (by kernel_rfl) (fun _ _ _ h => h) rfl ?_ (by assumption) ?_
  rotate_left
  · (intro w hSw; (try dsimp only at hSw); go_simp; try with_reducible rfl)
  try simp only [Act.put, List.setIfInBounds_toArray, List.set_cons_zero, List.set_cons_succ]
  refine hm_take (i := 3) (v := ?_) rfl rfl (by kernel_rfl) (by kernel_rfl) (by kernel_rfl) (fun _ _ _ h => h) rfl ?_ (by assumption) ?_
  rotate_left
  · (intro w hSw; (try dsimp only at hSw); go_simp; try with_reducible rfl)
  try simp only [Act.put, List.setIfInBounds_toArray, List.set_cons_zero, List.set_cons_succ]
  refine hm_take (i := 4) (v := ?_) rfl rfl (by kernel_rfl) (by kernel_rfl) (by kernel_rfl) (fun _ _ _ h => h) rfl ?_ (by assumption) ?_
  rotate_left
  · (intro w hSw; (try dsimp only at hSw); go_simp; try with_reducible rfl)
  try simp only [Act.put, List.setIfInBounds_toArray, List.set_cons_zero, List.set_cons_succ]
  refine hm_take (i := 5) (v := ?_) rfl rfl (by kernel_rfl) (by kernel_rfl) (by kernel_rfl) (fun _ _ _ h => h) rfl ?_ (by assumption) ?_
  rotate_left
  · (intro w hSw; (try dsimp only at hSw); go_simp; try with_reducible rfl)
  try simp only [Act.put, List.setIfInBounds_toArray, List.set_cons_zero, List.set_cons_succ]
  refine hm_call (i := 6) rfl (by kernel_rfl) rfl (fun K hK => ?_)
  go_simp
  (go_at_call 64; refine (appU64_any B (n + 16) x.c _ _ _ (H2.out.kept (grown_of_bel (bel_drew (bel_refl _))) (by cases hv : Value.ownBlock _ <;> simp)) (Nat.le_trans hBw hb2.size) (by omega)).mono ?_; rintro e w3 ⟨v3, rfl, hown3, hbb3⟩)
  (try go_wp2_with fail)
  refine hK.out _ _ (by (try dsimp only); exact (hbb3.cell (p := ⟨b, o + 2, none⟩) hbl).trans hw) (fun hHeld => ?_)
  clear hK K
  try simp only [Act.put, List.setIfInBounds_toArray, List.set_cons_zero, List.set_cons_succ]
  refine hm_take (i := 7) (v := ?_) rfl rfl (by kernel_rfl) (by kernel_rfl) (by kernel_rfl) (fun _ _ _ h => h) rfl ?_ (by assumption) ?_
  rotate_left
  · (intro w hSw; (try dsimp only at hSw); go_simp; try with_reducible rfl)
  try simp only [Act.put, List.setIfInBounds_toArray, List.set_cons_zero, List.set_cons_succ]
  refine wpAnyH_done (by kernel_rfl) ?_ _
  refine NoPanic.normal ?_
  have hb3 : Below B w w3 := hb2.drew.trans hbb3
  have H3 := Lib.hid hown3
  clear hown3 hbb3 hw H2
  go_wp2
  have hw : World.cell? _ ⟨b, o + 3, none⟩ = some (V x.d) := (hb3.cell (p := ⟨b, o + 3, none⟩) hbl).trans x3
  refine wp_region_noPanic ?_
  refine wp_region_held_drew (S := (fun w' => w'.cell? ⟨b, o + 3, none⟩ = some (V x.d))) (by kernel_rfl) (by exact hw) (fun hHeld => ?_)
  refine hm_take (i := 0) (v := ?_) rfl rfl (by kernel_rfl) (by kernel_rfl) (by kernel_rfl) (fun _ _ _ h => h) rfl ?_ (by assumption) ?_
  rotate_left
  · (intro w hSw; (try dsimp only at hSw); go_simp; try with_reducible rfl)
  try simp only [Act.put, List.setIfInBounds_toArray, List.set_cons_zero, List.set_cons_succ]
  refine hm_take (i := 1) (v := ?_) rfl rfl (by kernel_rfl) (by kernel_rfl) (by kernel_rfl) (fun _ _ _ h => h) rfl ?_ (by assumption) ?_
  rotate_left
  · (intro w hSw; (try dsimp only at hSw); go_simp; try with_reducible rfl)
  try simp only [Act.put, List.setIfInBounds_toArray, List.set_cons_zero, List.set_cons_succ]
  refine hm_take (i := 2) (v := ?_) rfl rfl (by kernel_rfl) (by kernel_rfl) (by kernel_rfl) (fun _ _ _ h => h) rfl ?_ (by assumption) ?_
  rotate_left
  · (intro w hSw; (try dsimp only at hSw); go_simp; try with_reducible rfl)
  try simp only [Act.put, List.setIfInBounds_toArray, List.set_cons_zero, List.set_cons_succ]
  refine hm_take (i := 3) (v := ?_) rfl rfl (by kernel_rfl) (by kernel_rfl) (by kernel_rfl) (fun _ _ _ h => h) rfl ?_ (by assumption) ?_
  rotate_left
  · (intro w hSw; (try dsimp only at hSw); go_simp; try with_reducible rfl)
  try simp only [Act.put, List.setIfInBounds_toArray, List.set_cons_zero, List.set_cons_succ]
  refine hm_take (i := 4) (v := ?_) rfl rfl (by kernel_rfl) (by kernel_rfl) (by kernel_rfl) (fun _ _ _ h => h) rfl ?_ (by assumption) ?_
  rotate_left
  · (intro w hSw; (try dsimp only at hSw); go_simp; try with_reducible rfl)
  try simp only [Act.put, List.setIfInBounds_toArray, List.set_cons_zero, List.set_cons_succ]
  refine hm_take (i := 5) (v := ?_) rfl rfl (by kernel_rfl) (by kernel_rfl) (by kernel_rfl) (fun _ _ _ h => h) rfl ?_ (by assumption) ?_
  rotate_left
  · (intro w hSw; (try dsimp only at hSw); go_simp; try with_reducible rfl)
  try simp only [Act.put, List.setIfInBounds_toArray, List.set_cons_zero, List.set_cons_succ]
  refine hm_call (i := 6) rfl (by kernel_rfl) rfl (fun K hK => ?_)
  go_simp
  (go_at_call 64; refine (appU64_any B (n + 24) x.d _ _ _ (H3.out.kept (grown_of_bel (bel_drew (bel_refl _))) (by cases hv : Value.ownBlock _ <;> simp)) (Nat.le_trans hBw hb3.size) (by omega)).mono ?_; rintro e w4 ⟨v4, rfl, hown4, hbb4⟩)
  (try go_wp2_with fail)
  refine hK.out _ _ (by (try dsimp only); exact (hbb4.cell (p := ⟨b, o + 3, none⟩) hbl).trans hw) (fun hHeld => ?_)
  clear hK K
  try simp only [Act.put, List.setIfInBounds_toArray, List.set_cons_zero, List.set_cons_succ]
  refine hm_take (i := 7) (v := ?_) rfl rfl (by kernel_rfl) (by kernel_rfl) (by kernel_rfl) (fun _ _ _ h => h) rfl ?_ (by assumption) ?_
  rotate_left
  · (intro w hSw; (try dsimp only at hSw); go_simp; try with_reducible rfl)
  try simp only [Act.put, List.setIfInBounds_toArray, List.set_cons_zero, List.set_cons_succ]
  refine wpAnyH_done (by kernel_rfl) ?_ _
  refine NoPanic.normal ?_
  have hb4 : Below B w w4 := hb3.drew.trans hbb4
  have H4 := Lib.hid hown4
  clear hown4 hbb4 hw H3
  go_wp2
  go_ret2
  refine ⟨v4, rfl, ?_, hb4⟩
  have h := H4.out
  rw [← le32_words x]
  simpa [Lib.byteCells_append, List.append_assoc, Nat.add_assoc] using h
theorem be_rev_take (v k : Nat) (hk : k < 32) : Lib.byteCells ((Lib.leBytes 32 v).take (k + 1)) = Lib.byteCells ((Lib.leBytes 32 v).take k) ++ [.int .u8 ((byteAt v k).toNat : Int)] := by
  rw [List.take_add_one, le_get, if_pos hk, Lib.byteCells_append]
  rfl
set_option maxHeartbeats 1000000 in
theorem ssz_any (b o : Nat) (x : N4) (w : World) (hx : At4 w b o x) : Calls Tryf.prog 17 #[.pointer (some ⟨b, o, none⟩)] w fun e w' => ∃ v, e = .returned (.tuple #[v, .nilIface]) ∧ SlB w' v (Lib.leBytes 32 x.toNat) ∧ Below w.heap.size w w' := by
  obtain ⟨i0, hi, hz0, hz1, hz2⟩ := info_parts Tryf.infoByte
  have hlt := hx.lt
  go_enter Tryf.func17, Tryf.ntmps17
  go_wp2_with (first
    | (at_make; refine wpList_make_own _ rfl _ _ 22 rfl w.heap.size 5 i0 (.int .u8 0) 1 Tryf.underlying22 hi hz0 hz1 _ _ _ 32 rfl rfl rfl (by rw [hz2]; omega) (by unfold maxLen; omega) (Nat.le_refl _) ?_; intro w1 hown hgrow; have hb1 : Below w.heap.size w w1 := (bel_refl w).grown hgrow (Nat.le_refl _) (fun g hg => by cases hg))
    | (go_at_call 26; refine (sszAppend_any b o x w.heap.size 0 _ _ _ (hx.bel hb1) hown hb1.size (by omega) (by simp [Value.ownBlock]; omega) hlt).mono ?_; rintro e w2 ⟨v2, rfl, hown2, hb2⟩; have H2 := Lib.hid hown2; clear hown2))
  go_ret2
  exact ⟨_, rfl, SlB.of_own (by rw [le_len]; simpa using H2.out), hb1.trans hb2⟩
theorem bytes_ones (l : List UInt8) : ∀ v ∈ Lib.byteCells l, v.oneCell' = true := fun v hv => by
  simp only [Lib.byteCells, List.mem_map] at hv
  obtain ⟨d, _, rfl⟩ := hv
  rfl
theorem SlB.src {w : World} {A : Option Addr} {n cap : Nat} {l : List UInt8} (h : SlB w (.slice A n cap) l) (h0 : 0 < n) : ∃ ad, A = some ad ∧ ∀ j v, (Lib.byteCells l)[j]? = some v → w.cell? (ad.add j) = some v := by
  obtain ⟨A', cap', e, hc, h⟩ := h
  injection e with e1 e2 e3
  subst e1 e2 e3
  obtain ⟨g, o, rfl, _⟩ := h 0 _ (List.getElem?_eq_getElem h0)
  refine ⟨_, rfl, fun j v hv => ?_⟩
  simp only [Lib.byteCells, List.getElem?_map, Option.map_eq_some_iff] at hv
  obtain ⟨d, hd, rfl⟩ := hv
  obtain ⟨g', o', e1, h1⟩ := h j d hd
  injection e1 with e1
  injection e1 with e1 e2
  subst e1 e2
  rw [Addr.add_lit]
  exact h1
theorem splice_row {w : World} {g : Nat} {cur cs : List Value} {t : TypeId} (h : Hid (w.heap[g]? = some (.cells (splice cur 0 cs).toArray t (0, 0)))) (hl : cs.length = cur.length) : w.rangeAt g 0 cs := fun j v hv => by
  rw [Nat.zero_add, cell_of_row w g j _ t (0, 0) h.out]
  have hj := (List.getElem?_eq_some_iff.1 hv).1
  unfold splice
  rw [List.getElem?_toArray, List.take_zero, List.nil_append, List.getElem?_append_left hj]
  exact hv
theorem results_cell_slot {P : Program} {fn : Func} {p q : Tmp} {ty : TypeId} (h : fn.results = #[.cell p ty, .tmp q]) (tmps : Array Value) (w : World) (g : Nat) (cs : List Value) (d : TypeDesc)
    (hp : tmps.getD p undef = .pointer (some ⟨g, 0, none⟩)) (hc : w.rangeAt g 0 cs) (hu : P.underlying ty = some d) (hd : d.isRow = true) (hi : (P.info? ty).map (·.size) = some cs.length) {u : Value} (hq : tmps.getD q undef = u) :
    (results fn tmps).run P w = .ok (.tuple #[.agg cs.toArray, u]) w := by
  have hp' : tmps[p]?.getD undef = .pointer (some ⟨g, 0, none⟩) := by simpa using hp
  have hq' : tmps[q]?.getD undef = u := by simpa using hq
  simp [results, h, hp', hq', asAddr, run_loadVar_mid w g 0 ty cs d hc hu hd hi]
theorem below_of {w w3 : World} {ob : Obj} (h : Below (w.heap.size + 1) (w.alloc ob) w3) : Below w.heap.size w w3 := (bel_alloc (bel_refl w) ob).trans (h.mono (by omega))
theorem there_eq {w : World} {b o n m : Nat} (h : w.there b o n) (e : m = n) : w.there b o m := by rw [e]; exact h
theorem there_keep {w w' : World} {b o n B : Nat} (h : w.there b o n) (k : Below B w w') (hb : b < B) : w'.there b o n := fun j hj => by
  have := h j hj
  rw [k.cell (p := ⟨b, o + j, none⟩) hb, k.frozen (p := ⟨b, o + j, none⟩) hb]
  exact this
theorem own_le {w : World} {B : Nat} {e : TypeId} {v : Value} {N : Nat} (h : w.ownsRow B e 1 v (0 + 32) ([] ++ Lib.byteCells (Lib.leBytes 32 N))) : ∃ A cap, v = .slice A 32 cap ∧ 32 ≤ cap ∧ SlB w (.slice A 32 cap) (Lib.leBytes 32 N) := by
  have h2 : SlB w v (Lib.leBytes 32 N) := SlB.of_own (base := B) (e := e) (by rw [le_len]; simpa using h)
  have h3 := h2
  obtain ⟨A, cap, rfl, hc, _⟩ := h2
  rw [le_len] at hc h3 ⊢
  exact ⟨A, cap, rfl, hc, h3⟩
set_option maxHeartbeats 1000000 in
theorem implSsz_any (x : N4) (w : World) : Calls Tryf.prog 7 #[x.v] w fun e w' => ∃ v, e = .returned (.tuple #[v, .bool true]) ∧ SlB w' v (Lib.leBytes 32 x.toNat) ∧ Below w.heap.size w w' := by
  go_enter Tryf.func7, Tryf.ntmps7
  go_wp2_with fail
  refine (intOf_any x _).mono ?_
  rintro e w0 ⟨B, rfl, m⟩
  have hb0 := bel_trans (bel_alloc (bel_refl w) _) m.bel
  go_wp2_with fail
  refine (ssz_any B 0 x _ m.at4).mono ?_
  rintro e w1 ⟨v, rfl, hs, hb1⟩
  have HS := Lib.hid hs
  clear hs
  go_wp2
  refine wp_region_noPanic ?_
  refine wp_region_held_drew (S := (fun _ => True)) (by kernel_rfl) (by exact trivial) (fun hHeld => ?_)
  refine hm_take (i := 0) (v := ?_) rfl rfl (by kernel_rfl) (by kernel_rfl) (by kernel_rfl) (fun _ _ _ h => h) rfl ?_ (by assumption) ?_
  rotate_left
  · (intro w hSw; (try dsimp only at hSw); go_simp; try with_reducible rfl)
  try simp only [Act.put, List.setIfInBounds_toArray, List.set_cons_zero, List.set_cons_succ]
  refine hm_take (i := 1) (v := ?_) rfl rfl (by kernel_rfl) (by kernel_rfl) (by kernel_rfl) (fun _ _ _ h => h) rfl ?_ (by assumption) ?_
  rotate_left
  · (intro w hSw; (try dsimp only at hSw); go_simp; try with_reducible rfl)
  try simp only [Act.put, List.setIfInBounds_toArray, List.set_cons_zero, List.set_cons_succ]
  refine hm_take (i := 2) (v := ?_) rfl rfl (by kernel_rfl) (by kernel_rfl) (by kernel_rfl) (fun _ _ _ h => h) rfl ?_ (by assumption) ?_
  rotate_left
  · (intro w hSw; (try dsimp only at hSw); go_simp; try with_reducible rfl)
  try simp only [Act.put, List.setIfInBounds_toArray, List.set_cons_zero, List.set_cons_succ]
  refine hm_take (i := 3) (v := ?_) rfl rfl (by kernel_rfl) (by kernel_rfl) (by kernel_rfl) (fun _ _ _ h => h) rfl ?_ (by assumption) ?_
  rotate_left
  · (intro w hSw; (try dsimp only at hSw); go_simp; try with_reducible rfl)
  try simp only [Act.put, List.setIfInBounds_toArray, List.set_cons_zero, List.set_cons_succ]
  refine hm_take (i := 4) (v := ?_) rfl rfl (by kernel_rfl) (by kernel_rfl) (by kernel_rfl) (fun _ _ _ h => h) rfl ?_ (by assumption) ?_
  rotate_left
  · (intro w hSw; (try dsimp only at hSw); go_simp; try with_reducible rfl)
  try simp only [Act.put, List.setIfInBounds_toArray, List.set_cons_zero, List.set_cons_succ]
  refine wpAnyH_done (by kernel_rfl) ?_ _
  refine NoPanic.normal ?_
  go_wp2
  go_ret2
  exact ⟨v, rfl, HS.out, (bel_trans hb0 hb1).drew⟩
end Go.Proofs.YtpmhkmcikjbncaaFmt
