/-
  Contracts of uint256's SRsh and Byte, and of the thin package's functions over cells for them.
-/
import Derived.Test.YtnbjmmmefnedhaaDesk5
import Derived.Test.YtnbjmmmefnedhaaShiftLaw
namespace Go.Proofs.Ytnbjmmmefnedhaa
open Go.RowKit
set_option linter.unusedVariables false
set_option linter.unusedSimpArgs false
theorem srshInt_any (b o c p : Nat) (z x : N4) (n : W64) (w : World) (hz : At4 w b o z) (fz : Free4 w b o) (hx : At4 w c p x) (sx : Sep b o c p) :
    Calls Try.prog 62 #[.pointer (some ⟨b, o, none⟩), .pointer (some ⟨c, p, none⟩), V n] w (RetPut b o (x.sar n) w) := by
  cases h : x.top
  · have := srsh_pos b o c p z x n w hz fz hx sx h
    unfold N4.sar; rw [h]; exact this
  · have := srsh_neg b o c p z x n w hz fz hx sx h
    unfold N4.sar; rw [h]; exact this
theorem u64_and7 (x : W64) : bits BinOp.and IntKind.u64 (U x) (7 : Int) = U (x &&& 7#64) := u64_and x 7#64
theorem u64_and255 (x : W64) : bits BinOp.and IntKind.u64 (U x) (255 : Int) = U (x &&& 255#64) := u64_and x 255#64
theorem u64_mul8 (x : W64) : IntKind.u64.wrap (U x * 8) = U (x * 8#64) := u64_mul x 8#64
theorem u64_56sub (x : W64) : IntKind.u64.wrap (56 - U x) = U (56#64 - x) := u64_lit 56 (by decide) x
theorem u64_ge32 (x : W64) : (32 ≤ U x) ↔ 32#64 ≤ x := u64_le 32#64 x
def N4.wdB (x : N4) (j : Nat) : W64 := if j = 0 then x.a else if j = 1 then x.b else if j = 2 then x.c else x.d
theorem put4_0321 (w : World) (b o : Nat) (z : N4) :
    (((w.setCell ⟨b, o, none⟩ (V z.a)).setCell ⟨b, o + 3, none⟩ (V z.d)).setCell ⟨b, o + 2, none⟩ (V z.c)).setCell ⟨b, o + 1, none⟩ (V z.b) = put4 w b o z := by
  unfold put4
  rw [setCell_comm _ ⟨b, o + 3, none⟩ ⟨b, o + 2, none⟩ _ _ (by simp), setCell_comm _ ⟨b, o + 3, none⟩ ⟨b, o + 1, none⟩ _ _ (by simp), setCell_comm _ ⟨b, o + 2, none⟩ ⟨b, o + 1, none⟩ _ _ (by simp)]
/-- The byte at place i of a number, the highest one at 0; i as a word. -/
def byteOff (i : W64) : W64 := 56#64 - (i &&& 7#64) * 8#64
def N4.byteW (z : N4) (i : W64) : W64 := shrW (z.wdB (3 - i.toNat / 8)) (byteOff i) &&& 255#64
def N4.byte (z x : N4) : N4 := if (!x.isU) || decide (32#64 ≤ x.a) then ⟨0#64, 0#64, 0#64, 0#64⟩ else ⟨z.byteW x.a, 0#64, 0#64, 0#64⟩
attribute [local go_sem] u64_and7 u64_and255 u64_mul8 u64_56sub u64_ge32
set_option maxRecDepth 100000 in
set_option maxHeartbeats 4000000 in
theorem byte_any (b o c p : Nat) (z x : N4) (w : World) (hz : At4 w b o z) (fz : Free4 w b o) (hx : At4 w c p x) :
    Calls Try.prog 48 #[.pointer (some ⟨b, o, none⟩), .pointer (some ⟨c, p, none⟩)] w (RetPut b o (z.byte x) w) := by
  have key : ∀ r, z.byte x = r → Hid (z.byte x = r) := fun _ h => h
  have Hz := Lib.hid hz
  have Hf := Lib.hid fz
  have Hx := Lib.hid hx
  cases hu : x.isU
  · have K := key _ (by unfold N4.byte; rw [hu, Bool.not_false, Bool.true_or, if_pos rfl])
    clear key hz fz hx
    go_enter Try.func48, Try.ntmps48
    go_wp2_with fail
    refine (uint64WithOverflow_any c p x _ Hx.out).mono ?_
    rintro e w1 ⟨rfl, m, rfl⟩
    go_wp2_with fail
    refine (clear_any b o z _ (Hz.out.drewN m) (Hf.out.drewN m)).mono ?_
    rintro e w1 ⟨rfl, m', rfl⟩
    go_wp2
    go_ret
    rw [K.out]
    exact retPut (m + m') rfl (by rw [put4_drewN, World.drewN_drewN])
  · by_cases h32 : 32#64 ≤ x.a
    · have K := key _ (by unfold N4.byte; rw [decide_eq_true h32, Bool.or_true, if_pos rfl])
      clear key hz fz hx
      go_enter Try.func48, Try.ntmps48
      go_wp2_with fail
      refine (uint64WithOverflow_any c p x _ Hx.out).mono ?_
      rintro e w1 ⟨rfl, m, rfl⟩
      go_wp2_with fail
      refine (clear_any b o z _ (Hz.out.drewN m) (Hf.out.drewN m)).mono ?_
      rintro e w1 ⟨rfl, m', rfl⟩
      go_wp2
      go_ret
      rw [K.out]
      exact retPut (m + m') rfl (by rw [put4_drewN, World.drewN_drewN])
    · have h31 : x.a.toNat < 32 := by rw [BitVec.le_def] at h32; simp only [BitVec.toNat_ofNat] at h32; omega
      have K0 := key _ (by unfold N4.byte; rw [hu, decide_eq_false h32, Bool.not_true, Bool.or_false, if_neg (by decide)])
      have hUx : U x.a = (x.a.toNat : Int) := rfl
      obtain ⟨z0, z1, z2, z3⟩ := hz
      obtain ⟨f0, f1, f2, f3⟩ := fz
      rcases (by omega : x.a.toNat / 8 = 0 ∨ x.a.toNat / 8 = 1 ∨ x.a.toNat / 8 = 2 ∨ x.a.toNat / 8 = 3) with hq | hq | hq | hq
      · have K : Hid (z.byte x = ⟨shrW z.d (56#64 - (x.a &&& 7#64) * 8#64) &&& 255#64, 0#64, 0#64, 0#64⟩) := by show _ = _; rw [K0.out]; unfold N4.byteW byteOff; rw [hq]; rfl
        have e8 : U x.a / 8 = 0 := by rw [hUx]; omega
        have e8' : (U x.a).tdiv 8 = 0 := by rw [Int.tdiv_eq_ediv_of_nonneg (U_nonneg _), e8]
        clear key hx K0 hUx hq
        go_enter Try.func48, Try.ntmps48
        go_wp2_with fail
        refine (uint64WithOverflow_any c p x _ Hx.out).mono ?_
        rintro e w1 ⟨rfl, m, rfl⟩
        go_wp2
        go_region
        go_wp2
        go_ret
        rw [K.out]
        refine retPut (m + 1) rfl ?_
        simp only [setCell_drewN', drewN_drew']
        exact congrArg (fun W => World.drewN W (m + 1)) (put4_0321 w b o ⟨_, 0#64, 0#64, 0#64⟩)
      · have K : Hid (z.byte x = ⟨shrW z.c (56#64 - (x.a &&& 7#64) * 8#64) &&& 255#64, 0#64, 0#64, 0#64⟩) := by show _ = _; rw [K0.out]; unfold N4.byteW byteOff; rw [hq]; rfl
        have e8 : U x.a / 8 = 1 := by rw [hUx]; omega
        have e8' : (U x.a).tdiv 8 = 1 := by rw [Int.tdiv_eq_ediv_of_nonneg (U_nonneg _), e8]
        clear key hx K0 hUx hq
        go_enter Try.func48, Try.ntmps48
        go_wp2_with fail
        refine (uint64WithOverflow_any c p x _ Hx.out).mono ?_
        rintro e w1 ⟨rfl, m, rfl⟩
        go_wp2
        go_region
        go_wp2
        go_ret
        rw [K.out]
        refine retPut (m + 1) rfl ?_
        simp only [setCell_drewN', drewN_drew']
        exact congrArg (fun W => World.drewN W (m + 1)) (put4_0321 w b o ⟨_, 0#64, 0#64, 0#64⟩)
      · have K : Hid (z.byte x = ⟨shrW z.b (56#64 - (x.a &&& 7#64) * 8#64) &&& 255#64, 0#64, 0#64, 0#64⟩) := by show _ = _; rw [K0.out]; unfold N4.byteW byteOff; rw [hq]; rfl
        have e8 : U x.a / 8 = 2 := by rw [hUx]; omega
        have e8' : (U x.a).tdiv 8 = 2 := by rw [Int.tdiv_eq_ediv_of_nonneg (U_nonneg _), e8]
        clear key hx K0 hUx hq
        go_enter Try.func48, Try.ntmps48
        go_wp2_with fail
        refine (uint64WithOverflow_any c p x _ Hx.out).mono ?_
        rintro e w1 ⟨rfl, m, rfl⟩
        go_wp2
        go_region
        go_wp2
        go_ret
        rw [K.out]
        refine retPut (m + 1) rfl ?_
        simp only [setCell_drewN', drewN_drew']
        exact congrArg (fun W => World.drewN W (m + 1)) (put4_0321 w b o ⟨_, 0#64, 0#64, 0#64⟩)
      · have K : Hid (z.byte x = ⟨shrW z.a (56#64 - (x.a &&& 7#64) * 8#64) &&& 255#64, 0#64, 0#64, 0#64⟩) := by show _ = _; rw [K0.out]; unfold N4.byteW byteOff; rw [hq]; rfl
        have e8 : U x.a / 8 = 3 := by rw [hUx]; omega
        have e8' : (U x.a).tdiv 8 = 3 := by rw [Int.tdiv_eq_ediv_of_nonneg (U_nonneg _), e8]
        clear key hx K0 hUx hq
        go_enter Try.func48, Try.ntmps48
        go_wp2_with fail
        refine (uint64WithOverflow_any c p x _ Hx.out).mono ?_
        rintro e w1 ⟨rfl, m, rfl⟩
        go_wp2
        go_region
        go_wp2
        go_ret
        rw [K.out]
        refine retPut (m + 1) rfl ?_
        simp only [setCell_drewN', drewN_drew']
        exact congrArg (fun W => World.drewN W (m + 1)) (put4_0321 w b o ⟨_, 0#64, 0#64, 0#64⟩)

set_option maxHeartbeats 1000000 in
theorem implSRsh_any (k : W4) (c : C4) (n : Int) (w : World) (hk : k.ok) : Calls Try.prog 31 #[k.v, c.v, .int .i64 n] w (RetBel (ansV (c.put (ix k.z) ((c.get (ix k.x)).sar (uN n))) false) w) := by
  have hcv := U_uN n
  go_enter Try.func31, Try.ntmps31
  go_wp2_with fail
  refine (open_any k c _ hk).mono ?_
  rintro e w1 ⟨d, bc, rfl, hd, hbc, desk, hb⟩
  have hres : w1.there (w.heap.size + 2) 0 17 := there_bel (there_at _ _ _ _ _ (Nat.le_refl _) (by simp)) (by omega) hb
  have hbel : Below w.heap.size w w1 := bel_trans (bel_alloc (bel_alloc (bel_alloc (bel_refl w) _) _) _) hb
  have hge : w.heap.size ≤ bc := by simp at hbc; omega
  clear hb hd hbc
  obtain ⟨p0, p1, p2, p3, p4⟩ := desk.ptrs
  go_wp2_with fail
  go_region_held3 (fun w' => w'.cell? ⟨d, 1, none⟩ = some (.pointer (some ⟨bc, off4 k.z, none⟩)) ∧ w'.cell? ⟨d, 2, none⟩ = some (.pointer (some ⟨bc, off4 k.x, none⟩))) (first | exact ⟨p1, p2⟩ | exact ⟨cl.p1, cl.p2⟩)
    (first | (go_at_call 62; refine (left_of_put (srshInt_any bc (off4 k.z) bc (off4 k.x) _ _ (uN n) _ ((desk.drewN 1).cells.at k.z) ((desk.drewN 1).cells.free k.z) ((desk.drewN 1).cells.at k.x) (sep_off _ _ _))).mono ?_; rintro e w2 hR; obtain ⟨hv, hcl⟩ := hR; subst hv; have cl := (hcl.desk (desk.drewN 1)).ptrs))
  have D2 := Lib.hid (hcl.desk (desk.drewN 1))
  have hres2 := hcl.there (there_drewN hres 1) (by omega)
  have hbel2 := hcl.bel' (bel_drewN hbel 1) hge
  clear cl desk p0 p1 p2 p3 p4 hcl
  go_wp2_with fail
  refine (answer_any d bc k _ false _ D2.out).mono ?_
  rintro e w3 ⟨rfl, hb3⟩
  have hres3 := there_bel hres2 (by omega) hb3
  have hbel3 := bel_trans hbel2 hb3
  go_wp2_with (refine wpList_store_mid rfl 31 _ _ rfl (w.heap.size + 2) 0 ((c.put (ix k.z) ((c.get (ix k.x)).sar (uN n))).l ++ [Value.bool false]).toArray rfl rfl hres3 (by kernel_rfl) (by simp [Value.oneCell']) ?_)
  refine bodyPost_ret (v := ansV (c.put (ix k.z) ((c.get (ix k.x)).sar (uN n))) false) (results_cell_mid rfl _ _ (w.heap.size + 2) ((c.put (ix k.z) ((c.get (ix k.x)).sar (uN n))).l ++ [Value.bool false]) _ rfl (World.rangeAt_setCells_same w3 (w.heap.size + 2) 0 ((c.put (ix k.z) ((c.get (ix k.x)).sar (uN n))).l ++ [Value.bool false]) hres3) Try.underlying31 rfl (by kernel_rfl)) rfl (retBel rfl ?_)
  exact setCells_bel hbel3 (by omega)

set_option maxHeartbeats 1000000 in
theorem implByte_any (k : W4) (c : C4) (w : World) (hk : k.ok) : Calls Try.prog 16 #[k.v, c.v] w (RetBel (ansV (c.put (ix k.z) ((c.get (ix k.z)).byte (c.get (ix k.x)))) false) w) := by
  go_enter Try.func16, Try.ntmps16
  go_wp2_with fail
  refine (open_any k c _ hk).mono ?_
  rintro e w1 ⟨d, bc, rfl, hd, hbc, desk, hb⟩
  have hres : w1.there (w.heap.size + 2) 0 17 := there_bel (there_at _ _ _ _ _ (Nat.le_refl _) (by simp)) (by omega) hb
  have hbel : Below w.heap.size w w1 := bel_trans (bel_alloc (bel_alloc (bel_alloc (bel_refl w) _) _) _) hb
  have hge : w.heap.size ≤ bc := by simp at hbc; omega
  clear hb hd hbc
  obtain ⟨p0, p1, p2, p3, p4⟩ := desk.ptrs
  go_wp2_with fail
  go_region_held3 (fun w' => w'.cell? ⟨d, 1, none⟩ = some (.pointer (some ⟨bc, off4 k.z, none⟩)) ∧ w'.cell? ⟨d, 2, none⟩ = some (.pointer (some ⟨bc, off4 k.x, none⟩))) (first | exact ⟨p1, p2⟩ | exact ⟨cl.p1, cl.p2⟩)
    (first | (go_at_call 48; refine (left_of_put (byte_any bc (off4 k.z) bc (off4 k.x) _ _ _ ((desk.drewN 1).cells.at k.z) ((desk.drewN 1).cells.free k.z) ((desk.drewN 1).cells.at k.x))).mono ?_; rintro e w2 hR; obtain ⟨hv, hcl⟩ := hR; subst hv; have cl := (hcl.desk (desk.drewN 1)).ptrs))
  have D2 := Lib.hid (hcl.desk (desk.drewN 1))
  have hres2 := hcl.there (there_drewN hres 1) (by omega)
  have hbel2 := hcl.bel' (bel_drewN hbel 1) hge
  clear cl desk p0 p1 p2 p3 p4 hcl
  go_wp2_with fail
  refine (answer_any d bc k _ false _ D2.out).mono ?_
  rintro e w3 ⟨rfl, hb3⟩
  have hres3 := there_bel hres2 (by omega) hb3
  have hbel3 := bel_trans hbel2 hb3
  go_wp2_with (refine wpList_store_mid rfl 31 _ _ rfl (w.heap.size + 2) 0 ((c.put (ix k.z) ((c.get (ix k.z)).byte (c.get (ix k.x)))).l ++ [Value.bool false]).toArray rfl rfl hres3 (by kernel_rfl) (by simp [Value.oneCell']) ?_)
  refine bodyPost_ret (v := ansV (c.put (ix k.z) ((c.get (ix k.z)).byte (c.get (ix k.x)))) false) (results_cell_mid rfl _ _ (w.heap.size + 2) ((c.put (ix k.z) ((c.get (ix k.z)).byte (c.get (ix k.x)))).l ++ [Value.bool false]) _ rfl (World.rangeAt_setCells_same w3 (w.heap.size + 2) 0 ((c.put (ix k.z) ((c.get (ix k.z)).byte (c.get (ix k.x)))).l ++ [Value.bool false]) hres3) Try.underlying31 rfl (by kernel_rfl)) rfl (retBel rfl ?_)
  exact setCells_bel hbel3 (by omega)
end Go.Proofs.Ytnbjmmmefnedhaa
