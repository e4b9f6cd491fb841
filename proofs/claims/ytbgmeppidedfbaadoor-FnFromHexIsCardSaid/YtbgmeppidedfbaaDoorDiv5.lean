/-
  The contract of uint256's udivrem: a number of some words divided by one of four.
-/
import Derived.Test.YtbgmeppidedfbaaDoorDiv4
import Derived.Test.YtbgmeppidedfbaaDoorDivMath3
import Derived.BigRegion
namespace Go.Proofs.YtbgmeppidedfbaaDoor
set_option maxRecDepth 20000
open Go.RowKit
set_option linter.unusedVariables false
set_option linter.unusedSimpArgs false
set_option maxRecDepth 20000
theorem RowW.put4_far {w : World} {b o : Nat} {l : List W64} (h : RowW w b o l) {c p : Nat} {z : N4} (hne : b ≠ c) : RowW (put4 w c p z) b o l :=
  (((h.far _ hne).far _ hne).far _ hne).far _ hne
theorem But.put4 {S : List Nat} {w w' : World} (h : But S w w') {b : Nat} (hb : b ∈ S ∨ w.heap.size ≤ b) (o : Nat) (z : N4) : But S w (put4 w' b o z) :=
  (((h.set hb _ _).set hb _ _).set hb _ _).set hb _ _
theorem But.step {S T : List Nat} {a b c : World} (h : But S a b) (k : But T b c) (ht : ∀ t ∈ T, t ∈ S ∨ a.heap.size ≤ t) : But S a c :=
  ⟨k.os.trans h.os, k.tape.trans h.tape, k.output.trans h.output, Nat.le_trans h.size k.size, fun i hi hs => (k.block i (Nat.lt_of_lt_of_le hi h.size) (fun e => by
    rcases ht i e with h1 | h1
    · exact hs h1
    · omega)).trans (h.block i hi hs)⟩
/-- The place where the rest goes, as an argument. -/
def remV : Option (Nat × Nat) → Value
  | none => .pointer none
  | some (b, o) => .pointer (some ⟨b, o, none⟩)
theorem remV_none : remV none = .pointer none := rfl
theorem remV_some (b o : Nat) : remV (some (b, o)) = .pointer (some ⟨b, o, none⟩) := rfl
/-- What a division leaves. -/
def RetDiv (bq oq lq : Nat) (ro : Option (Nat × Nat)) (U D : Nat) (w : World) (e : Ending) (w' : World) : Prop :=
  ∃ Q' : List W64, e = .returned (.tuple #[]) ∧ Q'.length = lq ∧ wseg Q' 0 lq = U / D ∧ RowW w' bq oq Q' ∧
    (∀ b o, ro = some (b, o) → ∃ x : N4, At4 w' b o x ∧ Free4 w' b o ∧ x.toNat = U % D) ∧ But (bq :: (ro.map (·.1)).toList) w w'
theorem shD_conv (x : W64) : IntKind.u64.wrap ((64 - Lib.bitLen x.toNat : Nat) : Int) = U (shD x) := by
  unfold U
  rw [shD_toNat, IntKind.wrap_u64]
  omega
/-- The number of words of a number. -/
def lenIs (l : List W64) (n : Nat) : Prop := 0 < n ∧ n ≤ l.length ∧ wd l (n - 1) ≠ 0#64 ∧ ∀ i, n ≤ i → wd l i = 0#64
theorem slice4 (b o k : Nat) (hk : k + 1 ≤ 4) (w : World) : (Instr.sliceAt 59 (.pointer (some ⟨b, o, none⟩)) none (some (.int .i64 ((k : Int) + 1))) none).run Tryd.prog w = .ok (.slice (some ⟨b, o, none⟩) (k + 1) 4) w := by
  have hl : Tryd.prog.arrayLen 59 = 4 := by kernel_rfl
  rw [run_sliceAt_array_h w _ ⟨b, o, none⟩ (by kernel_rfl) .i64 _ (by omega) (by rw [hl]; omega), hl]
  have hs : (sizeOf (Tryd.prog.elem 59)).run Tryd.prog w = .ok 1 w := by kernel_rfl
  rw [hs]
  have e : ((k : Int) + 1).toNat = k + 1 := by omega
  simp [Result.andThen, slicedAt, e, Addr.add]
theorem slice9 (b o k : Nat) (hk : k + 2 ≤ 9) (w : World) : (Instr.sliceAt 83 (.pointer (some ⟨b, o, none⟩)) none (some (.int .i64 ((k : Int) + 1 + 1))) none).run Tryd.prog w = .ok (.slice (some ⟨b, o, none⟩) (k + 2) 9) w := by
  have hl : Tryd.prog.arrayLen 83 = 9 := by kernel_rfl
  rw [run_sliceAt_array_h w _ ⟨b, o, none⟩ (by kernel_rfl) .i64 _ (by omega) (by rw [hl]; omega), hl]
  have hs : (sizeOf (Tryd.prog.elem 83)).run Tryd.prog w = .ok 1 w := by kernel_rfl
  rw [hs]
  have e : ((k : Int) + 1 + 1).toNat = k + 2 := by omega
  simp [Result.andThen, slicedAt, e, Addr.add]
theorem RowW.new4 (w : World) (t : TypeId) : RowW (w.alloc (.cells #[.int .u64 0, .int .u64 0, .int .u64 0, .int .u64 0] t)) w.heap.size 0 (List.replicate 4 0#64) := by
  refine RowW.of4 (x := ⟨0#64, 0#64, 0#64, 0#64⟩) ?_ ?_
  · constructor <;> simp [go_sem] <;> rfl
  · constructor <;> simp [go_sem]
theorem RowW.new9 (w : World) (t : TypeId) : RowW (w.alloc (.cells #[.int .u64 0, .int .u64 0, .int .u64 0, .int .u64 0, .int .u64 0, .int .u64 0, .int .u64 0, .int .u64 0, .int .u64 0] t)) w.heap.size 0 (List.replicate 9 0#64) := by
  constructor
  · intro i hi
    rw [wd_replicate]
    match i, hi with
    | 0, _ | 1, _ | 2, _ | 3, _ | 4, _ | 5, _ | 6, _ | 7, _ | 8, _ => simp [go_sem] <;> rfl
  · intro i hi
    match i, hi with
    | 0, _ | 1, _ | 2, _ | 3, _ | 4, _ | 5, _ | 6, _ | 7, _ | 8, _ => simp [go_sem]
theorem RowW.take {w : World} {b o : Nat} {l : List W64} (h : RowW w b o l) (n : Nat) : RowW w b o (l.take n) := by
  constructor
  · intro i hi
    rw [List.length_take] at hi
    rw [wd_take _ _ _ (by omega)]
    exact h.cell i (by omega)
  · intro i hi
    rw [List.length_take] at hi
    exact h.free i (by omega)
set_option maxHeartbeats 16000000 in
theorem udivrem_wide (bq oq lq cq bu ou lu cu bd od : Nat) (ro : Option (Nat × Nat)) (X : List W64) (D : N4) (w : World) (hQ : RowW w bq oq (List.replicate lq 0#64)) (hU : RowW w bu ou X) (hD : At4 w bd od D)
    (hlu : lu = X.length) (hlu2 : lu ≤ 8) (hlu3 : 4 ≤ lu) (hlq : lu ≤ lq) (hlq2 : lq ≤ 8) (hcu : lu ≤ cu) (nqu : bq ≠ bu) (nqd : bq ≠ bd)
    (hro : ∀ b o, ro = some (b, o) → At4 w b o ⟨0#64, 0#64, 0#64, 0#64⟩ ∧ Free4 w b o ∧ b ≠ bq ∧ b ≠ bu ∧ b ≠ bd ∧ (D.toNat ≤ wseg X 0 lu ∨ D.toNat < 18446744073709551616))
    (hD0 : 0 < D.toNat) (hU0 : 0 < wseg X 0 lu) :
    Calls Tryd.prog 54 #[.slice (some ⟨bq, oq, none⟩) lq cq, .slice (some ⟨bu, ou, none⟩) lu cu, .pointer (some ⟨bd, od, none⟩), remV ro] w (RetDiv bq oq lq ro (wseg X 0 lu) D.toNat w) := by
  have HQ := Lib.hid hQ
  have HU := Lib.hid hU
  have HD := Lib.hid hD
  have HRO := Lib.hid hro
  have Hlu := Lib.hid hlu
  have HD0 := Lib.hid hD0
  have HU0 := Lib.hid hU0
  have HDs : Hid (wseg D.l4 0 4 = D.toNat) := D.wseg4
  clear hQ hU hD hro hlu hD0 hU0
  go_enter Tryd.func54, Tryd.ntmps54
  go_wp2
  go_loop [9] (fun t => ∃ z : Int, t = .int .i64 z ∧ 0 ≤ z ∧ z ≤ 3 ∧ Hid (∀ i : Nat, z < (i : Int) → wd D.l4 i = 0#64)) (fun t => (intOf t + 1).toNat)
  case atStart => exact ⟨3, rfl, by omega, by omega, fun i hi => wd_ge (by show 4 ≤ i; omega)⟩
  case round =>
    obtain ⟨z, rfl, hz0, hz1, HZ⟩ := hrel
    obtain ⟨k, rfl⟩ := Int.eq_ofNat_of_zero_le hz0
    have hcd := HD.out.cellAt k (by omega)
    cases hx : (wd D.l4 k != 0#64)
    · have hk0 : 0 < k := by
        rcases Nat.eq_zero_or_pos k with h | h
        · exfalso
          subst h
          have h1 : wd D.l4 0 = 0#64 := by simpa using hx
          have h2 := HDs.out
          rw [wseg_zero (fun t ht => by
            rw [Nat.zero_add]
            by_cases e : t = 0
            · subst e; exact h1
            · exact HZ.out t (by omega))] at h2
          have := HD0.out
          omega
        · exact h
      have HX : Hid (wd D.l4 k = 0#64) := by show _ = _; simpa using hx
      go_wp2
      go_round
      case rel =>
        refine ⟨(k : Int) - 1, rfl, by omega, by omega, fun i hi => ?_⟩
        by_cases e : i = k
        · subst e; exact HX.out
        · exact HZ.out i (by omega)
      case measure => simp [intOf] <;> omega
    · have HX : Hid (wd D.l4 k ≠ 0#64) := by show _ ≠ _; simpa using hx
      have LZ0 := leadingZeros64_any (wd D.l4 k)
      have hcv0 := shD_conv (wd D.l4 k)
      obtain ⟨s, hs⟩ : ∃ s, s = shD (wd D.l4 k) := ⟨_, rfl⟩
      rw [← hs] at hcv0
      generalize 64 - Lib.bitLen (wd D.l4 k).toNat = lz at LZ0 hcv0
      have hcv : IntKind.u64.wrap (lz : Int) = U s := hcv0
      have LZ := Lib.hid LZ0
      have HS := Lib.hid hs
      have Hs64 : Hid (s.toNat < 64) := by show _ < _; rw [hs]; exact shD_lt _ HX.out
      clear LZ0 hs hcv0
      have hsl4 : ∀ (g : Nat) (w : World), (Instr.sliceAt 59 (.pointer (some ⟨g, 0, none⟩)) none (some (.int .i64 ((k : Int) + 1))) none).run Tryd.prog w = .ok (.slice (some ⟨g, 0, none⟩) (k + 1) 4) w := fun g w => slice4 g 0 k (by omega) w
      go_wp2_with (go_at_call 69; refine (LZ.out _).mono ?_; rintro e w' ⟨rfl, rfl⟩)
      clear hsl4 hcv
      go_loopw [13] (fun t wr => ∃ (z : Int) (L : List W64), t = .int .i64 z ∧ 0 ≤ z ∧ z ≤ (k : Int) ∧ Hid (L.length = 4) ∧ Hid (∀ i : Nat, z < (i : Int) → i ≤ k → wd L i = nrmW D.l4 s i) ∧ RowW wr w.heap.size 0 L ∧ But [] w wr) (fun t _ => (intOf t + 1).toNat)
      case atStart => exact ⟨(k : Int), List.replicate 4 0#64, rfl, by omega, by omega, rfl, fun i h1 h2 => by omega, RowW.new4 _ _, (But.refl _ _).alloc _⟩
      case round =>
        obtain ⟨z, L, rfl, hz0, hz1, HL, HN, hR, hB⟩ := hrel
        obtain ⟨wo, rfl⟩ : ∃ wo : World, wo = wr := ⟨_, rfl⟩
        have HDW := Lib.hid (HD.out.but hB (by simp))
        by_cases hz : 0 < z
        · obtain ⟨p, rfl⟩ : ∃ p : Nat, z = (p : Int) + 1 := ⟨(z - 1).toNat, by omega⟩
          have hd1 := HDW.out.cellAt (p + 1) (by omega)
          have hd2 := HDW.out.cellAt p (by omega)
          have hl : p + 1 < L.length := by rw [HL.out]; omega
          have hc := hR.cell (p + 1) hl
          have hf := hR.free (p + 1) hl
          have R2 := hR.set (p + 1) (shlW (wd D.l4 (p + 1)) s ||| shrW (wd D.l4 p) (restW s)) hl
          rw [Nat.zero_add] at hc hf R2
          have HR2 := Lib.hid R2
          have N2 : Hid (∀ i : Nat, (p : Int) < (i : Int) → i ≤ k → wd (L.set (p + 1) (shlW (wd D.l4 (p + 1)) s ||| shrW (wd D.l4 p) (restW s))) i = nrmW D.l4 s i) := by
            intro i h1 h2
            rw [wd_set _ _ _ _ hl]
            by_cases e : i = p + 1
            · subst e
              rw [if_pos rfl]
              unfold nrmW
              rw [if_neg (by omega)]
              rfl
            · rw [if_neg e]; exact HN.out i (by omega) h2
          have L2 : Hid ((L.set (p + 1) (shlW (wd D.l4 (p + 1)) s ||| shrW (wd D.l4 p) (restW s))).length = 4) := by show _ = _; rw [List.length_set, HL.out]
          have B2 := Lib.hid (hB.set (b := w.heap.size) (.inr (Nat.le_refl _)) (p + 1) (V (shlW (wd D.l4 (p + 1)) s ||| shrW (wd D.l4 p) (restW s))))
          have hdk : decide (p + 1 < k + 1) = true := decide_eq_true (by omega)
          clear R2 hR hB
          go_wp2
          go_region
          go_wp2
          go_roundw
          case rel => exact ⟨(p : Int), _, rfl, by omega, by omega, L2, N2, HR2.out.drew, B2.out.drew⟩
          case measure => simp [intOf] <;> omega
        · obtain rfl : z = 0 := by omega
          have hd0 := HDW.out.cellAt 0 (by omega)
          have hl : 0 < L.length := by rw [HL.out]; omega
          have hc0 := hR.cell 0 hl
          have hf0 := hR.free 0 hl
          rw [Nat.add_zero] at hd0 hc0 hf0
          have hdk : decide (0 < k + 1) = true := decide_eq_true (by omega)
          have hgl := hR.lt hl
          have HR2 := Lib.hid (hR.set 0 (shlW (wd D.l4 0) s) hl)
          obtain ⟨M, hM⟩ : ∃ M, M = L.set 0 (shlW (wd D.l4 0) s) := ⟨_, rfl⟩
          rw [← hM] at HR2
          have NM : Hid (∀ i : Nat, i < k + 1 → wd M i = nrmW D.l4 s i) := by
            intro i h2
            rw [hM, wd_set _ _ _ _ hl]
            by_cases e : i = 0
            · subst e
              rw [if_pos rfl]
              unfold nrmW
              rw [if_pos rfl]
            · rw [if_neg e]; exact HN.out i (by omega) (by omega)
          have LM : Hid (M.length = 4) := by show _ = _; rw [hM, List.length_set, HL.out]
          have B2 := Lib.hid (hB.set (b := w.heap.size) (.inr (Nat.le_refl _)) 0 (V (shlW (wd D.l4 0) s)))
          clear hM hR hB HN HDW
          have hbx := (HU.out.but B2.out (by simp))
          have HUW := Lib.hid hbx
          clear hbx
          go_wp2_with fail
          have hsz : (wo.setCell ⟨w.heap.size, 0, none⟩ (V (shlW (wd D.l4 0) s))).heap.size = wo.heap.size := by simp [World.setCell]
          have HSZ := Lib.hid hsz
          clear hsz hc0 hf0 hd0
          generalize wo.setCell ⟨w.heap.size, 0, none⟩ (V (shlW (wd D.l4 0) s)) = W1 at *
          have hgl1 : w.heap.size < W1.heap.size := by rw [HSZ.out]; exact hgl
          clear HSZ hgl hcd
          go_loop [15] (fun t => ∃ z : Int, t = .int .i64 z ∧ 0 ≤ z ∧ z < (lu : Int) ∧ Hid (∀ i : Nat, z < (i : Int) → wd X i = 0#64)) (fun t => (intOf t + 1).toNat)
          case atStart => exact ⟨(lu : Int) - 1, rfl, by omega, by omega, fun i hi => wd_ge (by rw [← Hlu.out]; omega)⟩
          case round =>
            obtain ⟨z, rfl, hz0, hz1, HZX⟩ := hrel
            obtain ⟨e, rfl⟩ := Int.eq_ofNat_of_zero_le hz0
            have hcx := HUW.out.cell e (by rw [← Hlu.out]; omega)
            have hel : e < lu := by omega
            have hde : decide (e < lu) = true := decide_eq_true hel
            cases hx1 : (wd X e != 0#64)
            · have hk0 : 0 < e := by
                rcases Nat.eq_zero_or_pos e with h | h
                · exfalso
                  subst h
                  have h1 : wd X 0 = 0#64 := by simpa using hx1
                  have h2 := HU0.out
                  rw [wseg_zero (fun t ht => by
                    rw [Nat.zero_add]
                    by_cases e : t = 0
                    · subst e; exact h1
                    · exact HZX.out t (by omega))] at h2
                  omega
                · exact h
              have HXE : Hid (wd X e = 0#64) := by show _ = _; simpa using hx1
              go_wp2
              go_round
              case rel =>
                refine ⟨(e : Int) - 1, rfl, by omega, by omega, fun i hi => ?_⟩
                by_cases e' : i = e
                · subst e'; exact HXE.out
                · exact HZX.out i (by omega)
              case measure => simp [intOf] <;> omega
            · have HXE : Hid (wd X e ≠ 0#64) := by show _ ≠ _; simpa using hx1
              by_cases hke : e < k
              · -- the number has fewer words than the divisor
                have hlt2 : wseg X 0 lu < D.toNat := by
                  rw [← HDs.out]
                  exact few_words (fun i hi => HZX.out i (by omega)) (by omega) HX.out (by omega) (fun i hi => HZ.out i (by omega)) hke
                rcases ro with _ | ⟨br, orr⟩
                · have rn : remV none = .pointer none := rfl
                  have hle : (e : Int) + 1 < (k : Int) + 1 := by omega
                  have HF : Hid (RetDiv bq oq lq none (wseg X 0 lu) D.toNat w (.returned (.tuple #[])) W1) := by
                    refine ⟨List.replicate lq 0#64, rfl, List.length_replicate, ?_, HQ.out.but B2.out (by simp), (fun b o h => by cases h), B2.out.mono (by simp)⟩
                    rw [wseg_zero (fun t ht => wd_replicate _ _), Nat.div_eq_of_lt hlt2]
                  clear hlt2
                  go_wp2
                  go_end0
                  exact HF.out
                · exfalso
                  have h5 := (HRO.out br orr rfl).2.2.2.2.2
                  have h6 := wseg_ge HX.out
                  rw [← wseg_len (l := D.l4) (show k + 1 ≤ 4 by omega) (fun i hi => HZ.out i (by omega)), HDs.out] at h6
                  have h7 : 18446744073709551616 ^ 1 ≤ 18446744073709551616 ^ k := Nat.pow_le_pow_right (by omega) (by omega)
                  rw [Nat.pow_one] at h7
                  omega
              · have hle : ¬ (e : Int) + 1 < (k : Int) + 1 := by omega
                have hsl9 : ∀ (g : Nat) (w : World), (Instr.sliceAt 83 (.pointer (some ⟨g, 0, none⟩)) none (some (.int .i64 ((e : Int) + 1 + 1))) none).run Tryd.prog w = .ok (.slice (some ⟨g, 0, none⟩) (e + 2) 9) w := fun g w => slice9 g 0 e (by omega) w
                go_upto_region 24 with fail
                have R9 := Lib.hid (RowW.new9 W1 83)
                have B3 := Lib.hid ((But.refl [] W1).alloc (Obj.cells #[.int .u64 0, .int .u64 0, .int .u64 0, .int .u64 0, .int .u64 0, .int .u64 0, .int .u64 0, .int .u64 0, .int .u64 0] 83))
                generalize W1.alloc (Obj.cells #[.int .u64 0, .int .u64 0, .int .u64 0, .int .u64 0, .int .u64 0, .int .u64 0, .int .u64 0, .int .u64 0, .int .u64 0] 83) = W2 at *
                have HUW2 := Lib.hid (HUW.out.but B3.out (by simp))
                have hbu : bu < W1.heap.size := HUW.out.lt (by rw [← Hlu.out]; omega)
                have hcx2 := HUW2.out.cell e (by rw [← Hlu.out]; omega)
                have hc9 := R9.out.cell (e + 1) (by rw [List.length_replicate]; omega)
                have hf9 := R9.out.free (e + 1) (by rw [List.length_replicate]; omega)
                have RS := R9.out.set (e + 1) (shrW (wd X e) (restW s)) (by rw [List.length_replicate]; omega)
                rw [Nat.zero_add] at hc9 hf9 RS
                have HRS := Lib.hid RS
                have hde2 : decide (e + 1 < e + 2) = true := decide_eq_true (by omega)
                generalize hgu : W1.heap.size = gu at *
                have HGU := Lib.hid hgu
                clear hgu RS
                go_wp2_with fail
                clear hc9 hf9 hde2 hsl9 hcx2
                go_loopw [18] (fun t wr => ∃ (z : Int) (L : List W64), t = .int .i64 z ∧ 0 ≤ z ∧ z ≤ (e : Int) ∧ Hid (L.length = 9) ∧ Hid (wd L (e + 1) = shrW (wd X e) (restW s)) ∧ Hid (∀ i : Nat, z < (i : Int) → i ≤ e → wd L i = nrmW X s i) ∧ RowW wr gu 0 L ∧ But [gu] W2 wr) (fun t _ => (intOf t + 1).toNat)
                case atStart =>
                  refine ⟨(e : Int), (List.replicate 9 0#64).set (e + 1) (shrW (wd X e) (restW s)), rfl, by omega, by omega, ?_, ?_, fun i h1 h2 => by omega, HRS.out, (But.refl _ _).set (.inl (by simp)) _ _⟩
                  · show _ = _
                    rw [List.length_set, List.length_replicate]
                  · show _ = _
                    rw [wd_set _ _ _ _ (by rw [List.length_replicate]; omega), if_pos rfl]
                case round =>
                  obtain ⟨z, L, rfl, hz0, hz1, HL9, HT9, HN9, hR, hB⟩ := hrel
                  obtain ⟨wn, rfl⟩ : ∃ wn : World, wn = wr := ⟨_, rfl⟩
                  have HUW3 := Lib.hid (HUW2.out.but hB (by simp; omega))
                  by_cases hz : 0 < z
                  · obtain ⟨p, rfl⟩ : ∃ p : Nat, z = (p : Int) + 1 := ⟨(z - 1).toNat, by omega⟩
                    have hd1 := HUW3.out.cell (p + 1) (by rw [← Hlu.out]; omega)
                    have hd2 := HUW3.out.cell p (by rw [← Hlu.out]; omega)
                    have hl : p + 1 < L.length := by rw [HL9.out]; omega
                    have hc := hR.cell (p + 1) hl
                    have hf := hR.free (p + 1) hl
                    have R2 := hR.set (p + 1) (shlW (wd X (p + 1)) s ||| shrW (wd X p) (restW s)) hl
                    rw [Nat.zero_add] at hc hf R2
                    have HR2 := Lib.hid R2
                    have N2 : Hid (∀ i : Nat, (p : Int) < (i : Int) → i ≤ e → wd (L.set (p + 1) (shlW (wd X (p + 1)) s ||| shrW (wd X p) (restW s))) i = nrmW X s i) := by
                      intro i h1 h2
                      rw [wd_set _ _ _ _ hl]
                      by_cases e : i = p + 1
                      · subst e
                        rw [if_pos rfl]
                        unfold nrmW
                        rw [if_neg (by omega)]
                        rfl
                      · rw [if_neg e]; exact HN9.out i (by omega) h2
                    have L2 : Hid ((L.set (p + 1) (shlW (wd X (p + 1)) s ||| shrW (wd X p) (restW s))).length = 9) := by show _ = _; rw [List.length_set, HL9.out]
                    have T2 : Hid (wd (L.set (p + 1) (shlW (wd X (p + 1)) s ||| shrW (wd X p) (restW s))) (e + 1) = shrW (wd X e) (restW s)) := by show _ = _; rw [wd_set _ _ _ _ hl, if_neg (by omega)]; exact HT9.out
                    have B2' := Lib.hid (hB.set (b := gu) (.inl (by simp)) (p + 1) (V (shlW (wd X (p + 1)) s ||| shrW (wd X p) (restW s))))
                    have hdk1 : decide (p + 1 < e + 2) = true := decide_eq_true (by omega)
                    have hdk2 : decide (p + 1 < lu) = true := decide_eq_true (by omega)
                    have hdk3 : decide (p < lu) = true := decide_eq_true (by omega)
                    clear R2 hR hB
                    go_wp2
                    go_region
                    go_wp2
                    go_roundw
                    case rel => exact ⟨(p : Int), _, rfl, by omega, by omega, L2, T2, N2, HR2.out.drew, B2'.out.drew⟩
                    case measure => simp [intOf] <;> omega
                  · obtain rfl : z = 0 := by omega
                    have hd0 := HUW3.out.cell 0 (by rw [← Hlu.out]; omega)
                    have hl : 0 < L.length := by rw [HL9.out]; omega
                    have hc0 := hR.cell 0 hl
                    have hf0 := hR.free 0 hl
                    rw [Nat.add_zero] at hd0 hc0 hf0
                    have hdk1 : decide (0 < e + 2) = true := decide_eq_true (by omega)
                    have hdk2 : decide (0 < lu) = true := decide_eq_true (by omega)
                    have hR2 := Lib.hid (hR.set 0 (shlW (wd X 0) s) hl)
                    obtain ⟨N, hN⟩ : ∃ N, N = L.set 0 (shlW (wd X 0) s) := ⟨_, rfl⟩
                    rw [← hN] at hR2
                    have NN : Hid (∀ i : Nat, i < e + 1 → wd N i = nrmW X s i) := by
                      intro i h2
                      rw [hN, wd_set _ _ _ _ hl]
                      by_cases e : i = 0
                      · subst e
                        rw [if_pos rfl]
                        unfold nrmW
                        rw [if_pos rfl]
                      · rw [if_neg e]; exact HN9.out i (by omega) (by omega)
                    have NT : Hid (wd N (e + 1) = shrW (wd X e) (restW s)) := by show _ = _; rw [hN, wd_set _ _ _ _ hl, if_neg (by omega)]; exact HT9.out
                    have LN : Hid (N.length = 9) := by show _ = _; rw [hN, List.length_set, HL9.out]
                    have B2' := Lib.hid (hB.set (b := gu) (.inl (by simp)) 0 (V (shlW (wd X 0) s)))
                    clear hN hR hB HN9 HUW3
                    go_upto_region 31 with fail
                    clear hd0 hc0 hf0 hdk1 hdk2
                    generalize wn.setCell ⟨gu, 0, none⟩ (V (shlW (wd X 0) s)) = W3 at *
                    have BW1 := B2.out
                    have BW3 := Lib.hid ((B2.out.step B3.out (by simp)).step B2'.out (fun t ht => by simp at ht; omega))
                    have RM := Lib.hid ((HR2.out.but B3.out (by simp)).but B2'.out (by simp; omega))
                    have RQ := Lib.hid (HQ.out.but BW3.out (by simp))
                    have hbq : bq < gu := by
                      have h := HQ.out.lt (by rw [List.length_replicate]; omega)
                      omega
                    have hbq2 : bq ≠ w.heap.size := fun h => by
                      have h' := HQ.out.lt (by rw [List.length_replicate]; omega)
                      omega
                    have DM := Lib.hid (div_nrm D.l4 M (k + 1) (by omega) HX.out (by rw [Nat.add_sub_cancel, ← HS.out]; exact NM.out))
                    have XM := Lib.hid (num_nrm X N s Hs64.out (e + 1) (by omega) NN.out NT.out)
                    have eD : Hid (wseg D.l4 0 (k + 1) = D.toNat) := by
                      show _ = _
                      rw [← HDs.out, wseg_len (l := D.l4) (n := k + 1) (m := 4) (by omega) (fun i hi => HZ.out i (by omega))]
                    have eX : Hid (wseg X 0 (e + 1) = wseg X 0 lu) := by
                      show _ = _
                      rw [wseg_len (l := X) (n := e + 1) (m := lu) (by omega) (fun i hi => HZX.out i (by omega))]
                    have hT : 0 < 2 ^ s.toNat := Nat.two_pow_pos _
                    clear BW1
                    have HQZ : ∀ (Q' : List W64) (m : Nat), m ≤ lq → Turned (List.replicate lq 0#64) Q' 0 m → Q'.length = lq ∧ wseg Q' 0 lq = wseg Q' 0 m := fun Q' m hm hT => by
                      refine ⟨by rw [hT.1, List.length_replicate], wseg_len hm (fun i hi => ?_)⟩
                      rw [hT.2 i (by omega), wd_replicate]
                    have HQZ' := Lib.hid HQZ
                    clear HQZ
                    have HT := Lib.hid hT
                    clear hT
                    have hmc := RM.out.cell 0 (by rw [LM.out]; omega)
                    rw [Nat.add_zero] at hmc
                    have hdk0 : decide (0 < k + 1) = true := decide_eq_true (by omega)
                    cases hk0 : ((k : Int) + 1 == 1)
                    · have k1 : 1 ≤ k := by
                        rcases Nat.eq_zero_or_pos k with h | h
                        · subst h; simp at hk0
                        · exact h
                      have KN : Hid (∀ W, RowW W bq oq (List.replicate lq 0#64) → RowW W gu 0 N → RowW W w.heap.size 0 M → Calls Tryd.prog 71 #[.slice (some ⟨bq, oq, none⟩) lq cq, .slice (some ⟨gu, 0, none⟩) (e + 2) 9, .slice (some ⟨w.heap.size, 0, none⟩) (k + 1) 4] W fun en W' => ∃ (Q' U' : List W64), en = .returned (.tuple #[]) ∧ Turned (List.replicate lq 0#64) Q' 0 (e + 1 - k) ∧ U'.length = e + 2 ∧ wseg Q' 0 (e + 1 - k) = wseg X 0 lu / D.toNat ∧ wseg U' 0 (k + 1) = wseg X 0 lu % D.toNat * 2 ^ s.toNat ∧ RowW W' bq oq Q' ∧ RowW W' gu 0 U' ∧ But [bq, gu] W W') := fun W h1 h2 h3 => by
                        have hlen : (N.take (e + 2)).length = e + 2 := by rw [List.length_take, LN.out]; omega
                        have hlen2 : (M.take (k + 1)).length = k + 1 := by rw [List.length_take, LM.out]; omega
                        have hdm := DM.out
                        rw [Nat.add_sub_cancel, ← HS.out] at hdm
                        have hxm : wseg N 0 (e + 2) = wseg X 0 (e + 1) * 2 ^ s.toNat ∧ (wd N (e + 1)).toNat < 2 ^ s.toNat := XM.out
                        have sN : ∀ j n, j + n ≤ e + 2 → wseg (N.take (e + 2)) j n = wseg N j n := fun j n hjn => wseg_congr (fun i hi => by rw [wd_take _ _ _ (by omega)])
                        have sM : wseg (M.take (k + 1)) 0 (k + 1) = wseg M 0 (k + 1) := wseg_congr (fun i hi => by rw [wd_take _ _ _ (by omega)])
                        have hpre := kn_pre X N M D.l4 (2 ^ s.toNat) e k (e + 1 - k) (k + 1) (by omega) rfl hxm.1 hdm.1 HT.out HX.out
                        have h := udivremKnuth_any bq oq gu 0 w.heap.size 0 lq cq 9 4 (e + 2) (e + 1 - k) (k + 1) (List.replicate lq 0#64) (N.take (e + 2)) (M.take (k + 1)) W h1 (h2.take _) (h3.take _) (by omega) (fun h => hbq2 h.symm) (by omega)
                          hlen.symm (by omega) hlen2.symm (by omega) (by omega) (by omega) (by rw [List.length_replicate]; omega) (by omega) (by omega) (by omega)
                          (by rw [Nat.add_sub_cancel, wd_take _ _ _ (by omega)]; exact hdm.2) (by rw [sN _ _ (by omega), sM]; exact hpre)
                        refine h.mono ?_
                        rintro en W' ⟨Q', U', a1, a2, a3, a4, a5, a6, a7, a8⟩
                        rw [sM, hdm.1, eD.out] at a4 a5
                        rw [show e + 1 - k + (k + 1) = e + 2 by omega, sN _ _ (by omega), hxm.1, eX.out] at a4
                        obtain ⟨q1, q2⟩ := div_back _ _ _ _ _ HT.out a4 a5
                        exact ⟨Q', U', a1, a2, by rw [a3, hlen], q1, q2, a6, a7, a8⟩
                      rcases ro with _ | ⟨br, orr⟩
                      · have rn : remV none = .pointer none := rfl
                        go_wp2_with fail
                        refine (KN.out _ RQ.out hR2.out RM.out).mono ?_
                        rintro en W4 ⟨Q', U', rfl, h4, h5, h6, h7, h8, h9, h10⟩
                        have Z := HQZ'.out Q' (e + 1 - k) (by omega) h4
                        have HF : Hid (RetDiv bq oq lq none (wseg X 0 lu) D.toNat w (.returned (.tuple #[])) W4) := ⟨Q', rfl, Z.1, by rw [Z.2]; exact h6, h8, (fun b o h => by cases h), (BW3.out.mono (T := [bq]) (fun _ _ h => by simp at h)).step h10 (fun t ht => by simp at ht; rcases ht with rfl | rfl; simp; exact .inr (by omega))⟩
                        clear h4 h5 h6 h7 h8 h9 h10 Z
                        go_wp2
                        go_end0
                        exact HF.out
                      · have rn : remV (some (br, orr)) = .pointer (some ⟨br, orr, none⟩) := rfl
                        obtain ⟨ha, hf, hb1, hb2, hb3, _⟩ := HRO.out br orr rfl
                        have hbr : br < gu := by have := ha.lt; omega
                        have RR := Lib.hid ((RowW.of4 ha hf).but BW3.out (by simp))
                        have Hb := Lib.hid hb1
                        clear ha hf hb1 hb2 hb3
                        go_wp2_with fail
                        refine (KN.out _ RQ.out hR2.out RM.out).mono ?_
                        rintro en W4 ⟨Q', U', rfl, h4, h5, h6, h7, h8, h9, h10⟩
                        have RR4 := Lib.hid (RR.out.but h10 (by simp; exact ⟨Hb.out, by omega⟩))
                        have Z := Lib.hid (HQZ'.out Q' (e + 1 - k) (by omega) h4)
                        have B9 := Lib.hid ((BW3.out.mono (T := [bq, br]) (fun _ _ h => by simp at h)).step h10 (fun t ht => by simp at ht; rcases ht with rfl | rfl; simp; exact .inr (by omega)))
                        have UL := Lib.hid h5
                        have QV := Lib.hid h6
                        have UV := Lib.hid h7
                        have RQ4 := Lib.hid h8
                        have RU4 := Lib.hid h9
                        clear h4 h5 h6 h7 h8 h9 h10
                        go_wp2
                        go_loopw [20] (fun t wr => ∃ (j : Nat) (R : List W64), t = .int .i64 (j : Int) ∧ j ≤ k ∧ Hid (R.length = 4) ∧ Hid (∀ i, i < j → wd R i = unnW U' s (k + 1) i) ∧ Hid (∀ i, j ≤ i → wd R i = 0#64) ∧ RowW wr br orr R ∧ But [br] W4 wr) (fun t _ => (10 - intOf t).toNat)
                        case atStart => exact ⟨0, N4.l4 ⟨0#64, 0#64, 0#64, 0#64⟩, rfl, by omega, rfl, fun i h => by omega, fun i _ => (by
                          match i with
                          | 0 | 1 | 2 | 3 => rfl
                          | i + 4 => rfl), RR4.out, But.refl _ _⟩
                        case round =>
                          obtain ⟨j, R, rfl, hjk, HRL, HRN, HRZ, hR, hB⟩ := hrel
                          obtain ⟨wf, rfl⟩ : ∃ wf : World, wf = wr := ⟨_, rfl⟩
                          have HUF := Lib.hid (RU4.out.but hB (by simp; omega))
                          by_cases hlt : j < k
                          · have hu1 := HUF.out.cell j (by rw [UL.out]; omega)
                            have hu2 := HUF.out.cell (j + 1) (by rw [UL.out]; omega)
                            have hl : j < R.length := by rw [HRL.out]; omega
                            have hc := hR.cell j hl
                            have hf := hR.free j hl
                            rw [Nat.zero_add] at hu1 hu2
                            have R2 := Lib.hid (hR.set j (shrW (wd U' j) s ||| shlW (wd U' (j + 1)) (restW s)) hl)
                            have N2 : Hid (∀ i, i < j + 1 → wd (R.set j (shrW (wd U' j) s ||| shlW (wd U' (j + 1)) (restW s))) i = unnW U' s (k + 1) i) := by
                              intro i h1
                              rw [wd_set _ _ _ _ hl]
                              by_cases e : i = j
                              · subst e
                                rw [if_pos rfl]
                                unfold unnW
                                rw [if_neg (by omega)]
                              · rw [if_neg e]; exact HRN.out i (by omega)
                            have Z2 : Hid (∀ i, j + 1 ≤ i → wd (R.set j (shrW (wd U' j) s ||| shlW (wd U' (j + 1)) (restW s))) i = 0#64) := by
                              intro i h1
                              rw [wd_set _ _ _ _ hl, if_neg (by omega)]
                              exact HRZ.out i (by omega)
                            have L2 : Hid ((R.set j (shrW (wd U' j) s ||| shlW (wd U' (j + 1)) (restW s))).length = 4) := by show _ = _; rw [List.length_set, HRL.out]
                            have B2f := Lib.hid (hB.set (b := br) (.inl (by simp)) (orr + j) (V (shrW (wd U' j) s ||| shlW (wd U' (j + 1)) (restW s))))
                            have hdk1 : decide (j < e + 2) = true := decide_eq_true (by omega)
                            have hdk2 : decide (j + 1 < e + 2) = true := decide_eq_true (by omega)
                            clear hR hB
                            go_wp2
                            go_region
                            go_wp2
                            go_roundw
                            case rel => exact ⟨j + 1, _, by go_num, by omega, L2, N2, Z2, R2.out.drew, B2f.out.drew⟩
                            case measure => simp [intOf] <;> omega
                          · obtain rfl : j = k := by omega
                            have hu1 := HUF.out.cell j (by rw [UL.out]; omega)
                            have hl : j < R.length := by rw [HRL.out]; omega
                            have hc := hR.cell j hl
                            have hf := hR.free j hl
                            rw [Nat.zero_add] at hu1
                            have R2 := Lib.hid (hR.set j (shrW (wd U' j) s) hl)
                            have hv : wseg (R.set j (shrW (wd U' j) s)) 0 4 = wseg X 0 lu % D.toNat := by
                              have hn : ∀ i, i < j + 1 → wd (R.set j (shrW (wd U' j) s)) i = unnW U' s (j + 1) i := by
                                intro i h1
                                rw [wd_set _ _ _ _ hl]
                                by_cases e : i = j
                                · subst e
                                  rw [if_pos rfl]
                                  unfold unnW
                                  rw [if_pos rfl]
                                · rw [if_neg e]; exact HRN.out i (by omega)
                              rw [wseg_len (l := R.set j (shrW (wd U' j) s)) (n := j + 1) (m := 4) (by omega) (fun i hi => by rw [wd_set _ _ _ _ hl, if_neg (by omega)]; exact HRZ.out i (by omega)), unn_all U' _ s Hs64.out (j + 1) (by omega) hn, UV.out, Nat.mul_div_cancel _ HT.out]
                            have HF : Hid (∀ nq, RetDiv bq oq lq (some (br, orr)) (wseg X 0 lu) D.toNat w (.returned (.tuple #[])) ((wf.setCell ⟨br, orr + j, none⟩ (V (shrW (wd U' j) s))).drewN nq)) := fun nq => by
                              refine ⟨Q', rfl, Z.out.1, by rw [Z.out.2]; exact QV.out, ?_, ?_, ?_⟩
                              · exact ((RQ4.out.but hB (by simp; exact fun h => Hb.out h.symm)).far _ (fun h => Hb.out h.symm)).drewN nq
                              · intro b o h
                                cases h
                                have hl4 : 4 ≤ (R.set j (shrW (wd U' j) s)).length := by rw [List.length_set, HRL.out]; omega
                                exact ⟨n4 (R.set j (shrW (wd U' j) s)), (R2.out.at4 hl4).drewN nq, (R2.out.free4 hl4).drewN nq, by rw [n4_toNat, hv]⟩
                              · exact ((B9.out.trans (hB.mono (T := [bq, br]) (fun k _ h => by simp at h; simp [h]))).set (b := br) (.inl (by simp)) _ _).drewN nq
                            have hdk1 : decide (j < e + 2) = true := decide_eq_true (by omega)
                            clear hv hR hB R2
                            go_wp2
                            go_region
                            go_wp2
                            go_end0
                            exact HF.out 1
                    · have k0 : k = 0 := by
                        have : (k : Int) + 1 = 1 := by simpa using hk0
                        omega
                      have K0 := Lib.hid k0
                      have BY : Hid (∀ w, RowW w bq oq (List.replicate lq 0#64) → RowW w gu 0 N → Calls Tryd.prog 70 #[.slice (some ⟨bq, oq, none⟩) lq cq, .slice (some ⟨gu, 0, none⟩) (e + 2) 9, V (wd M 0)] w fun en w' => ∃ (Q' : List W64) (r : W64), en = .returned (V r) ∧ Turned (List.replicate lq 0#64) Q' 0 (e + 1) ∧ wseg Q' 0 (e + 1) = wseg X 0 lu / D.toNat ∧ r.toNat = wseg X 0 lu % D.toNat * 2 ^ s.toNat ∧ RowW w' bq oq Q' ∧ But [bq] w w') := fun w h1 h2 => by
                        have hlen : (N.take (e + 2)).length = e + 2 := by rw [List.length_take, LN.out]; omega
                        have m0 : wseg M 0 (k + 1) = (wd M 0).toNat := by rw [K0.out]; simp [wseg]
                        have hdm := DM.out
                        rw [m0, Nat.add_sub_cancel, ← HS.out, eD.out, K0.out] at hdm
                        have hxm : wseg N 0 (e + 2) = wseg X 0 (e + 1) * 2 ^ s.toNat ∧ (wd N (e + 1)).toNat < 2 ^ s.toNat := XM.out
                        have hpos : 2 ^ s.toNat ≤ D.toNat * 2 ^ s.toNat := Nat.le_mul_of_pos_left _ HD0.out
                        have h := udivremBy1_any bq oq gu 0 lq cq 9 (List.replicate lq 0#64) (N.take (e + 2)) (wd M 0) w h1 (h2.take _) (by omega) (by rw [hlen]; omega) (by rw [hlen]; omega) (by rw [hlen, List.length_replicate]; omega) (by omega) (by rw [hlen]; omega) hdm.2
                          (by rw [hlen, wd_take _ _ _ (by omega), hdm.1]; exact Nat.lt_of_lt_of_le hxm.2 hpos)
                        rw [hlen] at h
                        refine h.mono ?_
                        rintro en w' ⟨Q', r, h3, h4, h5, h6, h7, h8⟩
                        rw [hlen] at h4 h5
                        rw [show e + 2 - 1 = e + 1 by omega] at h4
                        have h9 : wseg (N.take (e + 2)) 0 (e + 2) = wseg N 0 (e + 2) := wseg_congr (fun i hi => by rw [wd_take _ _ _ (by omega)])
                        rw [h9, hxm.1, eX.out, show e + 2 - 1 = e + 1 by omega, hdm.1] at h5
                        rw [hdm.1] at h6
                        obtain ⟨q1, q2⟩ := div_back _ _ _ _ _ HT.out h5 h6
                        exact ⟨Q', r, h3, h4, q1, q2, h7, h8⟩
                      clear k0
                      rcases ro with _ | ⟨br, orr⟩
                      · have rn : remV none = .pointer none := rfl
                        go_wp2_with fail
                        refine (BY.out _ RQ.out hR2.out).mono ?_
                        rintro en W4 ⟨Q', r, rfl, h4, h5, h6, h7, h8⟩
                        have Z := HQZ'.out Q' (e + 1) (by omega) h4
                        have HF : Hid (RetDiv bq oq lq none (wseg X 0 lu) D.toNat w (.returned (.tuple #[])) W4) := ⟨Q', rfl, Z.1, by rw [Z.2]; exact h5, h7, (fun b o h => by cases h), (BW3.out.mono (T := [bq]) (fun _ _ h => by simp at h)).trans h8⟩
                        clear h4 h5 h6 h7 h8 Z
                        go_wp2
                        go_end0
                        exact HF.out
                      · have rn : remV (some (br, orr)) = .pointer (some ⟨br, orr, none⟩) := rfl
                        obtain ⟨ha, hf, hb1, hb2, hb3, _⟩ := HRO.out br orr rfl
                        have HA := Lib.hid (ha.but BW3.out (by simp))
                        have HFr := Lib.hid (hf.but ha.lt BW3.out (by simp))
                        have Hb := Lib.hid hb1
                        clear ha hf hb1 hb2 hb3
                        go_wp2_with fail
                        refine (BY.out _ RQ.out hR2.out).mono ?_
                        rintro en W4 ⟨Q', r, rfl, h4, h5, h6, h7, h8⟩
                        have HA4 := HA.out.but h8 (by simp; exact Hb.out)
                        have HF4 := HFr.out.but HA.out.lt h8 (by simp; exact Hb.out)
                        have SU := Lib.hid (setUint64_any br orr _ (shrW r s) W4 HA4 HF4)
                        have hfin : (shrW r s).toNat = wseg X 0 lu % D.toNat := by rw [shrW_toNat, h6, Nat.mul_div_cancel _ HT.out]
                        have Z := HQZ'.out Q' (e + 1) (by omega) h4
                        have B9 := (BW3.out.mono (T := [bq, br]) (fun _ _ h => by simp at h)).trans (h8.mono (T := [bq, br]) (fun k _ h => by simp at h; simp [h]))
                        have HF : Hid (∀ nq, RetDiv bq oq lq (some (br, orr)) (wseg X 0 lu) D.toNat w (.returned (.tuple #[])) ((put4 W4 br orr ⟨shrW r s, 0#64, 0#64, 0#64⟩).drewN nq)) := fun nq => by
                          refine ⟨Q', rfl, Z.1, by rw [Z.2]; exact h5, ?_, ?_, ?_⟩
                          · exact (h7.put4_far (fun h => Hb.out h.symm)).drewN nq
                          · intro b o h
                            cases h
                            refine ⟨_, (put4_at W4 br orr ⟨shrW r s, 0#64, 0#64, 0#64⟩ _ HA4).drewN nq, (HF4.put _).drewN nq, ?_⟩
                            show (shrW r s).toNat + 2 ^ 64 * 0 + 2 ^ 128 * 0 + 2 ^ 192 * 0 = _
                            rw [hfin]
                            omega
                          · exact (B9.put4 (b := br) (.inl (by simp)) orr _).drewN nq
                        clear h4 h5 h6 h7 h8 Z HA4 HF4 hfin B9
                        go_wp2_with fail
                        refine SU.out.mono ?_
                        rintro en W5 ⟨rfl, nq, rfl⟩
                        go_wp2
                        go_end0
                        exact HF.out nq
/-- The same, where the divisor is at most the dividend if a rest is wanted. -/
theorem udivrem_any (bq oq lq cq bu ou lu cu bd od : Nat) (ro : Option (Nat × Nat)) (X : List W64) (D : N4) (w : World) (hQ : RowW w bq oq (List.replicate lq 0#64)) (hU : RowW w bu ou X) (hD : At4 w bd od D)
    (hlu : lu = X.length) (hlu2 : lu ≤ 8) (hlu3 : 4 ≤ lu) (hlq : lu ≤ lq) (hlq2 : lq ≤ 8) (hcu : lu ≤ cu) (nqu : bq ≠ bu) (nqd : bq ≠ bd)
    (hro : ∀ b o, ro = some (b, o) → At4 w b o ⟨0#64, 0#64, 0#64, 0#64⟩ ∧ Free4 w b o ∧ b ≠ bq ∧ b ≠ bu ∧ b ≠ bd ∧ D.toNat ≤ wseg X 0 lu)
    (hD0 : 0 < D.toNat) (hU0 : 0 < wseg X 0 lu) :
    Calls Tryd.prog 54 #[.slice (some ⟨bq, oq, none⟩) lq cq, .slice (some ⟨bu, ou, none⟩) lu cu, .pointer (some ⟨bd, od, none⟩), remV ro] w (RetDiv bq oq lq ro (wseg X 0 lu) D.toNat w) :=
  udivrem_wide bq oq lq cq bu ou lu cu bd od ro X D w hQ hU hD hlu hlu2 hlu3 hlq hlq2 hcu nqu nqd (fun b o e => let ⟨h1, h2, h3, h4, h5, h6⟩ := hro b o e; ⟨h1, h2, h3, h4, h5, .inl h6⟩) hD0 hU0
end Go.Proofs.YtbgmeppidedfbaaDoor
