/-
  Contracts of uint256's ExtendSign, and of the thin package's over cells.
-/
import Derived.Test.YtakneagklldciaaDesk6
import Derived.Test.YtakneagklldciaaImpl1
namespace Go.Proofs.Ytakneagklldciaa
open Go.RowKit
set_option linter.unusedVariables false
set_option linter.unusedSimpArgs false
/-- The lowest byte, its sign in all upper bits; and those bits alone. -/
def sextW (x : W64) : W64 := if x.toNat % 256 < 128 then BitVec.ofNat 64 (x.toNat % 256) else BitVec.ofNat 64 (18446744073709551360 + x.toNat % 256)
def exW (x : W64) : W64 := if x.toNat % 256 < 128 then 0#64 else 18446744073709551615#64
theorem sextW_toNat (x : W64) : (sextW x).toNat = if x.toNat % 256 < 128 then x.toNat % 256 else 18446744073709551360 + x.toNat % 256 := by
  unfold sextW
  split <;> rw [BitVec.toNat_ofNat] <;> omega
theorem wrap_i8 (n : Int) : IntKind.i8.wrap n = (n + 128) % 256 - 128 := by
  simp [IntKind.wrap, IntKind.bits, IntKind.signed]
  split <;> omega
theorem u64_sext (x : W64) : IntKind.u64.wrap (IntKind.i64.wrap (IntKind.i8.wrap (U x))) = U (sextW x) := by
  rw [wrap_i8, IntKind.wrap_i64, IntKind.wrap_u64]
  show _ = ((sextW x).toNat : Int)
  rw [sextW_toNat]
  unfold U
  split <;> omega
theorem u64_sext' (x : W64) : IntKind.u64.wrap (IntKind.i8.wrap (U x)) = U (sextW x) := by
  rw [← u64_sext, IntWalk.i64_in (IntKind.i8.wrap (U x)) (by rw [wrap_i8]; omega)]
theorem u64_ex (x : W64) : IntKind.u64.wrap (IntKind.i64.wrap (U (sextW x)) / 256) = U (exW x) := by
  rw [IntKind.wrap_i64, IntKind.wrap_u64]
  have e : U (sextW x) = ((sextW x).toNat : Int) := rfl
  rw [e, sextW_toNat]
  unfold exW
  split
  · show _ = (((0#64 : W64).toNat : Nat) : Int)
    simp only [BitVec.toNat_ofNat]
    omega
  · show _ = (((18446744073709551615#64 : W64).toNat : Nat) : Int)
    simp only [BitVec.toNat_ofNat]
    omega
theorem u64_sextw (x : W64) : IntKind.u64.wrap (wrap64 (IntKind.i8.wrap (U x))) = U (sextW x) := by
  rw [IntWalk.wrap64_in (IntKind.i8.wrap (U x)) (by rw [wrap_i8]; omega), u64_sext']
theorem wrap64_eq (n : Int) : wrap64 n = IntKind.i64.wrap n := by unfold wrap64; rw [IntKind.wrap_i64]
theorem u64_exw (x : W64) : IntKind.u64.wrap (wrap64 (U (sextW x)) / 256) = U (exW x) := by rw [wrap64_eq]; exact u64_ex x
theorem u64_gt30 (x : W64) : (30 < U x) ↔ 30#64 < x := u64_lt 30#64 x
/-- Eight times the place of the sign byte in its word. -/
def offW (y : W64) : W64 := (y &&& 7#64) * 8#64
/-- The word with the sign. -/
def extW (wd y : W64) : W64 := shlW (sextW (shrW wd (offW y))) (offW y) ||| (wd &&& ~~~(shlW 18446744073709551615#64 (offW y)))
def ex2W (wd y : W64) : W64 := exW (shrW wd (offW y))
def N4.ext (x y : N4) : N4 := if decide (30#64 < y.a) || !y.isU then x
  else if y.a.toNat / 8 = 0 then ⟨extW x.a y.a, ex2W x.a y.a, ex2W x.a y.a, ex2W x.a y.a⟩
  else if y.a.toNat / 8 = 1 then ⟨x.a, extW x.b y.a, ex2W x.b y.a, ex2W x.b y.a⟩
  else if y.a.toNat / 8 = 2 then ⟨x.a, x.b, extW x.c y.a, ex2W x.c y.a⟩
  else ⟨x.a, x.b, x.c, extW x.d y.a⟩
attribute [local go_sem] u64_and7 u64_mul8 u64_sext u64_sext' u64_ex u64_sextw u64_exw
attribute [local go_sem ↓] u64_shlMax
set_option maxRecDepth 100000 in
set_option maxHeartbeats 4000000 in
theorem extendSign_any (b o c p d q : Nat) (z x y : N4) (w : World) (hz : At4 w b o z) (fz : Free4 w b o) (hx : At4 w c p x) (hy : At4 w d q y) (sx : Sep b o c p) :
    Calls Try.prog 47 #[.pointer (some ⟨b, o, none⟩), .pointer (some ⟨c, p, none⟩), .pointer (some ⟨d, q, none⟩)] w (RetPut b o (x.ext y) w) := by
  have key : ∀ r, x.ext y = r → Hid (x.ext y = r) := fun _ h => h
  have Hz := Lib.hid hz
  have Hf := Lib.hid fz
  have Hx := Lib.hid hx
  have Hy := Lib.hid hy
  clear hz fz hx hy
  have GT : Hid (∀ w, At4 w d q y → Calls Try.prog 74 #[.pointer (some ⟨d, q, none⟩), .int .u64 30] w fun e w' => e = .returned (.bool (decide (30#64 < y.a) || !y.isU)) ∧ ∃ m, w' = w.drewN m) := fun w h => gtUint64_any d q y 30#64 w h
  cases hg : (decide (30#64 < y.a) || !y.isU)
  · have h30 : y.a.toNat ≤ 30 := by
      simp only [Bool.or_eq_false_iff, decide_eq_false_iff_not, BitVec.lt_def, BitVec.toNat_ofNat] at hg
      omega
    rw [hg] at GT
    have hUy : U y.a = (y.a.toNat : Int) := rfl
    rcases (by omega : y.a.toNat / 8 = 0 ∨ y.a.toNat / 8 = 1 ∨ y.a.toNat / 8 = 2 ∨ y.a.toNat / 8 = 3) with hq | hq | hq | hq
    · have K : Hid (x.ext y = ⟨extW x.a y.a, ex2W x.a y.a, ex2W x.a y.a, ex2W x.a y.a⟩) := key _ (by unfold N4.ext; rw [hg, if_neg (by decide)]; rw [if_pos hq])
      have e8 : U y.a / 8 = 0 := by rw [hUy]; omega
      have e8' : (U y.a).tdiv 8 = 0 := by rw [Int.tdiv_eq_ediv_of_nonneg (U_nonneg _), e8]
      clear key hg hUy hq
      go_enter Try.func47, Try.ntmps47
      go_wp2_with fail
      refine (GT.out _ Hy.out).mono ?_
      rintro e w1 ⟨rfl, m0, rfl⟩
      go_wp2_with fail
      refine (uint64_any d q y _ (Hy.out.drewN m0)).mono ?_
      rintro e w1 ⟨rfl, m1, rfl⟩
      go_wp2_with fail
      refine (set_any b o c p z x _ (Hz.out.drewN (m0 + m1)) (Hf.out.drewN (m0 + m1)) (Hx.out.drewN (m0 + m1)) sx).mono ?_
      rintro e w1 ⟨rfl, m2, rfl⟩
      have A1 := (put4_at (w.drewN (m0 + m1)) b o x z (Hz.out.drewN (m0 + m1))).drewN m2
      have F1 := ((Hf.out.drewN (m0 + m1)).put (b := b) (o := o) x).drewN m2
      obtain ⟨a0, a1, a2, a3⟩ := A1
      obtain ⟨g0, g1, g2, g3⟩ := F1
      obtain ⟨W, hW⟩ : ∃ W, W = (put4 (w.drewN (m0 + m1)) b o x).drewN m2 := ⟨_, rfl⟩
      rw [← hW] at a0 a1 a2 a3 g0 g1 g2 g3 ⊢
      have HW := Lib.hid hW
      clear hW
      go_wp2
      go_region
      go_wp2
      go_ret
      rw [K.out, HW.out]
      refine retPut (m0 + m1 + m2 + 1) rfl ?_
      simp only [put4_drewN, setCell_drewN', drewN_drew', World.drewN_drewN, put4_set0, put4_set3, put4_set2, put4_set1, extW, ex2W, offW]
    · have K : Hid (x.ext y = ⟨x.a, extW x.b y.a, ex2W x.b y.a, ex2W x.b y.a⟩) := key _ (by unfold N4.ext; rw [hg, if_neg (by decide)]; rw [if_neg (by omega), if_pos hq])
      have e8 : U y.a / 8 = 1 := by rw [hUy]; omega
      have e8' : (U y.a).tdiv 8 = 1 := by rw [Int.tdiv_eq_ediv_of_nonneg (U_nonneg _), e8]
      clear key hg hUy hq
      go_enter Try.func47, Try.ntmps47
      go_wp2_with fail
      refine (GT.out _ Hy.out).mono ?_
      rintro e w1 ⟨rfl, m0, rfl⟩
      go_wp2_with fail
      refine (uint64_any d q y _ (Hy.out.drewN m0)).mono ?_
      rintro e w1 ⟨rfl, m1, rfl⟩
      go_wp2_with fail
      refine (set_any b o c p z x _ (Hz.out.drewN (m0 + m1)) (Hf.out.drewN (m0 + m1)) (Hx.out.drewN (m0 + m1)) sx).mono ?_
      rintro e w1 ⟨rfl, m2, rfl⟩
      have A1 := (put4_at (w.drewN (m0 + m1)) b o x z (Hz.out.drewN (m0 + m1))).drewN m2
      have F1 := ((Hf.out.drewN (m0 + m1)).put (b := b) (o := o) x).drewN m2
      obtain ⟨a0, a1, a2, a3⟩ := A1
      obtain ⟨g0, g1, g2, g3⟩ := F1
      obtain ⟨W, hW⟩ : ∃ W, W = (put4 (w.drewN (m0 + m1)) b o x).drewN m2 := ⟨_, rfl⟩
      rw [← hW] at a0 a1 a2 a3 g0 g1 g2 g3 ⊢
      have HW := Lib.hid hW
      clear hW
      go_wp2
      go_region
      go_wp2
      go_ret
      rw [K.out, HW.out]
      refine retPut (m0 + m1 + m2 + 1) rfl ?_
      simp only [put4_drewN, setCell_drewN', drewN_drew', World.drewN_drewN, put4_set1, put4_set3, put4_set2, extW, ex2W, offW]
    · have K : Hid (x.ext y = ⟨x.a, x.b, extW x.c y.a, ex2W x.c y.a⟩) := key _ (by unfold N4.ext; rw [hg, if_neg (by decide)]; rw [if_neg (by omega), if_neg (by omega), if_pos hq])
      have e8 : U y.a / 8 = 2 := by rw [hUy]; omega
      have e8' : (U y.a).tdiv 8 = 2 := by rw [Int.tdiv_eq_ediv_of_nonneg (U_nonneg _), e8]
      clear key hg hUy hq
      go_enter Try.func47, Try.ntmps47
      go_wp2_with fail
      refine (GT.out _ Hy.out).mono ?_
      rintro e w1 ⟨rfl, m0, rfl⟩
      go_wp2_with fail
      refine (uint64_any d q y _ (Hy.out.drewN m0)).mono ?_
      rintro e w1 ⟨rfl, m1, rfl⟩
      go_wp2_with fail
      refine (set_any b o c p z x _ (Hz.out.drewN (m0 + m1)) (Hf.out.drewN (m0 + m1)) (Hx.out.drewN (m0 + m1)) sx).mono ?_
      rintro e w1 ⟨rfl, m2, rfl⟩
      have A1 := (put4_at (w.drewN (m0 + m1)) b o x z (Hz.out.drewN (m0 + m1))).drewN m2
      have F1 := ((Hf.out.drewN (m0 + m1)).put (b := b) (o := o) x).drewN m2
      obtain ⟨a0, a1, a2, a3⟩ := A1
      obtain ⟨g0, g1, g2, g3⟩ := F1
      obtain ⟨W, hW⟩ : ∃ W, W = (put4 (w.drewN (m0 + m1)) b o x).drewN m2 := ⟨_, rfl⟩
      rw [← hW] at a0 a1 a2 a3 g0 g1 g2 g3 ⊢
      have HW := Lib.hid hW
      clear hW
      go_wp2
      go_ret
      rw [K.out, HW.out]
      refine retPut (m0 + m1 + m2) rfl ?_
      simp only [put4_drewN, setCell_drewN', drewN_drew', World.drewN_drewN, put4_set2, put4_set3, extW, ex2W, offW]
    · have K : Hid (x.ext y = ⟨x.a, x.b, x.c, extW x.d y.a⟩) := key _ (by unfold N4.ext; rw [hg, if_neg (by decide)]; rw [if_neg (by omega), if_neg (by omega), if_neg (by omega)])
      have e8 : U y.a / 8 = 3 := by rw [hUy]; omega
      have e8' : (U y.a).tdiv 8 = 3 := by rw [Int.tdiv_eq_ediv_of_nonneg (U_nonneg _), e8]
      clear key hg hUy hq
      go_enter Try.func47, Try.ntmps47
      go_wp2_with fail
      refine (GT.out _ Hy.out).mono ?_
      rintro e w1 ⟨rfl, m0, rfl⟩
      go_wp2_with fail
      refine (uint64_any d q y _ (Hy.out.drewN m0)).mono ?_
      rintro e w1 ⟨rfl, m1, rfl⟩
      go_wp2_with fail
      refine (set_any b o c p z x _ (Hz.out.drewN (m0 + m1)) (Hf.out.drewN (m0 + m1)) (Hx.out.drewN (m0 + m1)) sx).mono ?_
      rintro e w1 ⟨rfl, m2, rfl⟩
      have A1 := (put4_at (w.drewN (m0 + m1)) b o x z (Hz.out.drewN (m0 + m1))).drewN m2
      have F1 := ((Hf.out.drewN (m0 + m1)).put (b := b) (o := o) x).drewN m2
      obtain ⟨a0, a1, a2, a3⟩ := A1
      obtain ⟨g0, g1, g2, g3⟩ := F1
      obtain ⟨W, hW⟩ : ∃ W, W = (put4 (w.drewN (m0 + m1)) b o x).drewN m2 := ⟨_, rfl⟩
      rw [← hW] at a0 a1 a2 a3 g0 g1 g2 g3 ⊢
      have HW := Lib.hid hW
      clear hW
      go_wp2
      go_ret
      rw [K.out, HW.out]
      refine retPut (m0 + m1 + m2) rfl ?_
      simp only [put4_drewN, setCell_drewN', drewN_drew', World.drewN_drewN, put4_set3, extW, ex2W, offW]
  · have K := key x (by unfold N4.ext; rw [hg, if_pos rfl])
    rw [hg] at GT
    clear key hg
    go_enter Try.func47, Try.ntmps47
    go_wp2_with fail
    refine (GT.out _ Hy.out).mono ?_
    rintro e w1 ⟨rfl, m0, rfl⟩
    go_wp2_with fail
    refine (set_any b o c p z x _ (Hz.out.drewN m0) (Hf.out.drewN m0) (Hx.out.drewN m0) sx).mono ?_
    rintro e w1 ⟨rfl, m1, rfl⟩
    go_wp2
    go_ret
    rw [K.out]
    exact retPut (m0 + m1) rfl (by rw [put4_drewN, World.drewN_drewN])

set_option maxHeartbeats 1000000 in
theorem implExtendSign_any (k : W4) (c : C4) (w : World) (hk : k.ok) : Calls Try.prog 16 #[k.v, c.v] w (RetBel (ansV (c.put (ix k.z) ((c.get (ix k.x)).ext (c.get (ix k.y)))) false) w) := by
  go_enter Try.func16, Try.ntmps16
  go_wp2_with fail
  refine (open_any k c _ hk).mono ?_
  rintro e w1 ⟨d, bc, rfl, hd, hbc, desk, hb⟩
  have hres : w1.there (w.heap.size + 2) 0 17 := there_bel (there_at _ _ _ _ _ (Nat.le_refl _) (by simp)) (by omega) hb
  have hbel : Below w.heap.size w w1 := bel_trans (bel_alloc (bel_alloc (bel_alloc (bel_refl w) _) _) _) hb
  have hge : w.heap.size ≤ bc := by simp at hbc; omega
  clear hb hd hbc
  obtain ⟨p0, p1, p2, p3, p4⟩ := desk.ptrs
  go_wp2_with fail
  go_region_held3 (fun w' => w'.cell? ⟨d, 1, none⟩ = some (.pointer (some ⟨bc, off4 k.z, none⟩)) ∧ w'.cell? ⟨d, 2, none⟩ = some (.pointer (some ⟨bc, off4 k.x, none⟩)) ∧ w'.cell? ⟨d, 3, none⟩ = some (.pointer (some ⟨bc, off4 k.y, none⟩))) (first | exact ⟨p1, p2, p3⟩ | exact ⟨cl.p1, cl.p2, cl.p3⟩)
    (first | (go_at_call 47; refine (left_of_put (extendSign_any bc (off4 k.z) bc (off4 k.x) bc (off4 k.y) _ _ _ _ ((desk.drewN 1).cells.at k.z) ((desk.drewN 1).cells.free k.z) ((desk.drewN 1).cells.at k.x) ((desk.drewN 1).cells.at k.y) (sep_off _ _ _))).mono ?_; rintro e w2 hR; obtain ⟨hv, hcl⟩ := hR; subst hv; have cl := (hcl.desk (desk.drewN 1)).ptrs))
  have D2 := Lib.hid (hcl.desk (desk.drewN 1))
  have hres2 := hcl.there (there_drewN hres 1) (by omega)
  have hbel2 := hcl.bel' (bel_drewN hbel 1) hge
  clear cl desk p0 p1 p2 p3 p4 hcl
  go_wp2_with fail
  refine (answer_any d bc k _ false _ D2.out).mono ?_
  rintro e w3 ⟨rfl, hb3⟩
  have hres3 := there_bel hres2 (by omega) hb3
  have hbel3 := bel_trans hbel2 hb3
  go_wp2_with (refine wpList_store_mid rfl 31 _ _ rfl (w.heap.size + 2) 0 ((c.put (ix k.z) ((c.get (ix k.x)).ext (c.get (ix k.y)))).l ++ [Value.bool false]).toArray rfl rfl hres3 (by kernel_rfl) (by simp [Value.oneCell']) ?_)
  refine bodyPost_ret (v := ansV (c.put (ix k.z) ((c.get (ix k.x)).ext (c.get (ix k.y)))) false) (results_cell_mid rfl _ _ (w.heap.size + 2) ((c.put (ix k.z) ((c.get (ix k.x)).ext (c.get (ix k.y)))).l ++ [Value.bool false]) _ rfl (World.rangeAt_setCells_same w3 (w.heap.size + 2) 0 ((c.put (ix k.z) ((c.get (ix k.x)).ext (c.get (ix k.y)))).l ++ [Value.bool false]) hres3) Try.underlying31 rfl (by kernel_rfl)) rfl (retBel rfl ?_)
  exact setCells_bel hbel3 (by omega)
end Go.Proofs.Ytakneagklldciaa
