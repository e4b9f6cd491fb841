/-
  The walk of uint256's zzDiv64 at a divisor whose highest bit is set.
-/
import Derived.Test.YtbgmeppidedfbaaDoorDiv1
import Derived.Deep.DeepCutAuto
import Derived.Deep.CutBlock
namespace Go.Proofs.YtbgmeppidedfbaaDoor
open Go.RowKit
set_option linter.unusedVariables false
set_option linter.unusedSimpArgs false
theorem u64_shl0d (x : W64) (k : IntKind) : Op.shift .shl .u64 (U x) k 0 = pure (.int .u64 (U x)) := by
  have h := u64_shlU x 0#64 k
  have e : U (0#64) = 0 := rfl
  have e2 : shlW x 0#64 = x := by unfold shlW; simp
  rw [e, e2] at h
  exact h
theorem u64_shr0d (x : W64) (k : IntKind) : Op.shift .shr .u64 (U x) k 0 = pure (.int .u64 (U x)) := by
  have h := u64_shrU x 0#64 k
  have e : U (0#64) = 0 := rfl
  have e2 : shrW x 0#64 = x := by unfold shrW; simp
  rw [e, e2] at h
  exact h
theorem u64_div64d (x : W64) : U x / (18446744073709551616 : Int) = 0 := by have := U_lt x; have := U_nonneg x; omega
theorem u64_or0d (x : W64) : bits BinOp.or IntKind.u64 (U x) 0 = U x := by
  have h := u64_or x 0#64
  have e : U (0#64) = 0 := rfl
  rw [e, BitVec.or_zero] at h
  exact h
attribute [local go_sem ↓] u64_shl0d u64_shr0d
attribute [local go_sem] u64_div64d u64_or0d
theorem half_rest_nat (u n p r y : Nat) (h1 : p + r = u * 4294967296 + n) (h2 : r < y) (hy : y < 18446744073709551616) : (18446744073709551616 - p % 18446744073709551616 + (u * 4294967296 % 18446744073709551616 + n) % 18446744073709551616) % 18446744073709551616 = r := by omega
theorem half_rest (uW nW y q : W64) (hn : nW.toNat < 4294967296) (h : uW.toNat < y.toNat) (hq : q.toNat = (uW.toNat * 4294967296 + nW.toNat) / y.toNat) :
    (uW * 4294967296#64 + nW - q * y).toNat = (uW.toNat * 4294967296 + nW.toNat) % y.toNat := by
  have h1 := Nat.div_add_mod (uW.toNat * 4294967296 + nW.toNat) y.toNat
  have h2 := Nat.mod_lt (uW.toNat * 4294967296 + nW.toNat) (show 0 < y.toNat by omega)
  rw [← hq] at h1
  have h3 := half_rest_nat uW.toNat nW.toNat (y.toNat * q.toNat) _ y.toNat h1 h2 y.isLt
  rw [BitVec.toNat_sub, BitVec.toNat_add, BitVec.toNat_mul, BitVec.toNat_mul, Nat.mul_comm q.toNat]
  exact h3
theorem half_join (hi lo y q1 q0 u1 : Nat) (hq1 : q1 = (hi * 4294967296 + lo / 4294967296) / y) (hu : u1 = (hi * 4294967296 + lo / 4294967296) % y) (hq0 : q0 = (u1 * 4294967296 + lo % 4294967296) / y) (hy : 0 < y) (hlt : hi < y) (hlo : lo < 18446744073709551616) :
    q1 * 4294967296 + q0 = (hi * 18446744073709551616 + lo) / y ∧ q1 < 4294967296 ∧ q0 < 4294967296 := by
  have h1 := Nat.div_add_mod (hi * 4294967296 + lo / 4294967296) y
  rw [← hq1, ← hu] at h1
  have hul : u1 < y := by rw [hu]; exact Nat.mod_lt _ hy
  refine ⟨?_, ?_, ?_⟩
  · have e : hi * 18446744073709551616 + lo = y * (q1 * 4294967296) + (u1 * 4294967296 + lo % 4294967296) := by
      have : y * (q1 * 4294967296) = y * q1 * 4294967296 := by rw [Nat.mul_assoc]
      rw [this]
      generalize y * q1 = p at *
      omega
    rw [e, Nat.mul_add_div hy, ← hq0]
  · rw [hq1]; exact (Nat.div_lt_iff_lt_mul hy).2 (by omega)
  · rw [hq0]; exact (Nat.div_lt_iff_lt_mul hy).2 (by omega)
set_option maxHeartbeats 4000000 in
theorem zzDiv64_any (hi lo y : W64) (w : World) (hy : 9223372036854775808 ≤ y.toNat) (hlt : hi.toNat < y.toNat) :
    Calls Tryd.prog 88 #[V hi, V lo, V y] w fun e w' => ∃ q r : W64, e = .returned (.tuple #[V q, V r]) ∧ q.toNat = (hi.toNat * 18446744073709551616 + lo.toNat) / y.toNat ∧ ∃ n, w' = w.drewN n := by
  have hlz : 64 - Lib.bitLen y.toNat = 0 := by rw [bl_top y.toNat y.isLt hy]
  have LZ0 := leadingZeros64_any y
  rw [hlz] at LZ0
  have LZ := Lib.hid LZ0
  have hle : ¬ y ≤ hi := by rw [BitVec.le_def]; omega
  have hz : (y == 0#64) = false := by
    rw [Bool.eq_false_iff]; intro h; rw [beq_iff_eq] at h; subst h; simp at hy
  have hyz : ¬ U (hiW y) = 0 := by unfold U; intro h; have := hiW_toNat y; omega
  have Hy := Lib.hid hy
  have Hlt := Lib.hid hlt
  have B0 : 2147483648 ≤ (hiW y).toNat ∧ (hiW y).toNat < 4294967296 ∧ (loW y).toNat < 4294967296 ∧ (hiW lo).toNat < 4294967296 ∧ (loW lo).toNat < 4294967296 ∧ hi.toNat < (hiW y).toNat * 4294967296 + (loW y).toNat := by
    have := y.isLt; have := lo.isLt
    rw [hiW_toNat, loW_toNat, hiW_toNat, loW_toNat]
    omega
  have B := Lib.hid B0
  have ye : Hid ((hiW y).toNat * 4294967296 + (loW y).toNat = y.toNat) := by
    show _ = _
    rw [hiW_toNat, loW_toNat]; omega
  clear hlz LZ0 hy hlt B0
  cases h0 : (hi == 0#64)
  · go_enter Tryd.func88, Tryd.ntmps88
    go_upto_block 0 with (go_at_call 69; refine (LZ.out _).mono ?_; rintro e w' ⟨rfl, rfl⟩)
    go_cut [15] (fun s wx => ∃ q : W64, s = V q ∧ Hid (q.toNat = (hi.toNat * 4294967296 + (hiW lo).toNat) / ((hiW y).toNat * 4294967296 + (loW y).toNat)) ∧ wx = w)
    case first =>
      go_wp2_with fail
      go_loop [15, 16] (fun a b => ∃ q rh : W64, a = V q ∧ b = V rh ∧ HalfRel hi.toNat (hiW lo).toNat (hiW y).toNat (loW y).toNat q rh) (fun a _ => (intOf a).toNat)
      case atStart => exact ⟨_, _, rfl, rfl, half_begin hi (hiW y) (loW y) _ B.out.1 B.out.2.1 B.out.2.2.1 B.out.2.2.2.1 B.out.2.2.2.2.2⟩
      case round =>
        obtain ⟨q, rh, rfl, rfl, H⟩ := hrel
        have M := Lib.hid (half_more hi.toNat (hiW lo).toNat (hiW lo) (hiW y) (loW y) q rh rfl B.out.1 B.out.2.1 B.out.2.2.1 B.out.2.2.2.1 B.out.2.2.2.2.2 H)
        by_cases hm : 4294967296#64 ≤ q ∨ 4294967296#64 * rh + hiW lo < q * loW y
        · have R := Lib.hid (half_round hi.toNat (hiW lo).toNat (hiW y) (loW y) q rh B.out.1 B.out.2.1 B.out.2.2.1 B.out.2.2.2.1 H (M.out.1 hm))
          have hm2 : 4294967296#64 ≤ q ∨ (¬ 4294967296#64 ≤ q ∧ 4294967296#64 * rh + hiW lo < q * loW y) := by
            by_cases h : 4294967296#64 ≤ q
            · exact .inl h
            · exact .inr ⟨h, hm.resolve_left h⟩
          clear hm
          by_cases hb : 4294967296#64 ≤ rh + hiW y
          · have E := Lib.hid (R.out.2.1 hb)
            rcases hm2 with hm | ⟨hm1, hm⟩
            all_goals
              go_wp2
              go_meet
              exact ⟨_, rfl, E.out, rfl⟩
          · have E := Lib.hid (R.out.1 hb)
            rcases hm2 with hm | ⟨hm1, hm⟩
            all_goals
              go_wp2
              go_round
              case rel => exact ⟨_, _, rfl, rfl, E.out⟩
              case measure => have := R.out.2.2; simp only [intOf]; unfold U; omega
        · have hm1 : ¬ 4294967296#64 ≤ q := fun h => hm (.inl h)
          have hm2 : ¬ 4294967296#64 * rh + hiW lo < q * loW y := fun h => hm (.inr h)
          have E := Lib.hid (M.out.2 hm1 hm2)
          clear hm
          go_wp2
          go_meet
          exact ⟨_, rfl, E.out, rfl⟩
    case rest =>
      obtain ⟨q, rfl, E, rfl⟩ := hcut
      have R1 := Lib.hid (half_rest hi (hiW lo) y q B.out.2.2.2.1 Hlt.out (by rw [E.out, ye.out]))
      obtain ⟨uW, huW⟩ : ∃ uW, uW = hi * 4294967296#64 + hiW lo - q * y := ⟨_, rfl⟩
      have B2 : Hid (2147483648 ≤ (hiW y).toNat ∧ (hiW y).toNat < 4294967296 ∧ (loW y).toNat < 4294967296 ∧ (loW lo).toNat < 4294967296 ∧ True ∧ uW.toNat < (hiW y).toNat * 4294967296 + (loW y).toNat) := by
        refine ⟨B.out.1, B.out.2.1, B.out.2.2.1, B.out.2.2.2.2.1, trivial, ?_⟩
        rw [ye.out, huW, R1.out]
        exact Nat.mod_lt _ (by have := Hy.out; omega)
      have HU := Lib.hid huW
      have HU2 := huW.symm
      clear huW
      go_upto_block 2 with fail
      clear HU2
      go_cut [18] (fun s wx => ∃ q : W64, s = V q ∧ Hid (q.toNat = (uW.toNat * 4294967296 + (loW lo).toNat) / ((hiW y).toNat * 4294967296 + (loW y).toNat)) ∧ wx = wc)
      case first =>
        go_wp2_with fail
        go_loop [18, 16] (fun a b => ∃ q rh : W64, a = V q ∧ b = V rh ∧ HalfRel uW.toNat (loW lo).toNat (hiW y).toNat (loW y).toNat q rh) (fun a _ => (intOf a).toNat)
        case atStart => exact ⟨_, _, rfl, rfl, half_begin uW (hiW y) (loW y) _ B2.out.1 B2.out.2.1 B2.out.2.2.1 B2.out.2.2.2.1 B2.out.2.2.2.2.2⟩
        case round =>
          obtain ⟨q, rh, rfl, rfl, H⟩ := hrel
          have M := Lib.hid (half_more uW.toNat (loW lo).toNat (loW lo) (hiW y) (loW y) q rh rfl B2.out.1 B2.out.2.1 B2.out.2.2.1 B2.out.2.2.2.1 B2.out.2.2.2.2.2 H)
          by_cases hm : 4294967296#64 ≤ q ∨ 4294967296#64 * rh + loW lo < q * loW y
          · have R := Lib.hid (half_round uW.toNat (loW lo).toNat (hiW y) (loW y) q rh B2.out.1 B2.out.2.1 B2.out.2.2.1 B2.out.2.2.2.1 H (M.out.1 hm))
            have hm2 : 4294967296#64 ≤ q ∨ (¬ 4294967296#64 ≤ q ∧ 4294967296#64 * rh + loW lo < q * loW y) := by
              by_cases h : 4294967296#64 ≤ q
              · exact .inl h
              · exact .inr ⟨h, hm.resolve_left h⟩
            clear hm
            by_cases hb : 4294967296#64 ≤ rh + hiW y
            · have E := Lib.hid (R.out.2.1 hb)
              rcases hm2 with hm | ⟨hm1, hm⟩
              all_goals
                go_wp2
                go_meet
                exact ⟨_, rfl, E.out, rfl⟩
            · have E := Lib.hid (R.out.1 hb)
              rcases hm2 with hm | ⟨hm1, hm⟩
              all_goals
                go_wp2
                go_round
                case rel => exact ⟨_, _, rfl, rfl, E.out⟩
                case measure => have := R.out.2.2; simp only [intOf]; unfold U; omega
          · have hm1 : ¬ 4294967296#64 ≤ q := fun h => hm (.inl h)
            have hm2 : ¬ 4294967296#64 * rh + loW lo < q * loW y := fun h => hm (.inr h)
            have E := Lib.hid (M.out.2 hm1 hm2)
            clear hm
            go_wp2
            go_meet
            exact ⟨_, rfl, E.out, rfl⟩
      case rest =>
        obtain ⟨q0, rfl, E0, rfl⟩ := hcut
        go_wp2
        go_ret2
        refine ⟨_, _, rfl, ?_, 0, rfl⟩
        have hy0 : 0 < y.toNat := by have := Hy.out; omega
        have J := half_join hi.toNat lo.toNat y.toNat q.toNat q0.toNat uW.toNat (by rw [E.out, ye.out, hiW_toNat]) (by rw [HU.out, R1.out, hiW_toNat]) (by rw [E0.out, ye.out, loW_toNat]) hy0 Hlt.out lo.isLt
        rw [BitVec.toNat_add, BitVec.toNat_mul]
        simp only [BitVec.toNat_ofNat]
        rw [← J.1]
        omega
  · have e0 : hi.toNat = 0 := by rw [beq_iff_eq] at h0; subst h0; rfl
    have E0 := Lib.hid e0
    have hyU : ¬ U y = 0 := by unfold U; intro h; have := Hy.out; omega
    clear e0
    go_enter Tryd.func88, Tryd.ntmps88
    go_wp2
    go_quiet (fail)
    go_wp2
    go_ret2
    refine ⟨_, _, rfl, ?_, nq, rfl⟩
    rw [quoW_toNat, E0.out, Nat.zero_mul, Nat.zero_add]
/-- The reciprocal of a word whose highest bit is set. -/
def recW (d : W64) : W64 := BitVec.ofNat 64 ((340282366920938463463374607431768211455 - 18446744073709551616 * d.toNat) / d.toNat)
theorem recW_toNat (d : W64) (hd : 9223372036854775808 ≤ d.toNat) : (recW d).toNat = (340282366920938463463374607431768211455 - 18446744073709551616 * d.toNat) / d.toNat := by
  unfold recW
  rw [BitVec.toNat_ofNat]
  exact Nat.mod_eq_of_lt (recip_bounds d.toNat _ (by omega) d.isLt rfl).1
theorem recip_any (d : W64) (w : World) (hd : 9223372036854775808 ≤ d.toNat) : Calls Tryd.prog 76 #[V d] w fun e w' => e = .returned (V (recW d)) ∧ ∃ n, w' = w.drewN n := by
  have hz := zzDiv64_any (~~~d) 18446744073709551615#64 d w hd (by rw [BitVec.toNat_not]; omega)
  have hq : ∀ q : W64, q.toNat = ((~~~d).toNat * 18446744073709551616 + (18446744073709551615#64 : W64).toNat) / d.toNat → q = recW d := by
    intro q h
    apply BitVec.eq_of_toNat_eq
    rw [h, recW_toNat d hd, BitVec.toNat_not]
    congr 1
    have := d.isLt
    simp only [BitVec.toNat_ofNat]
    omega
  have HZ := Lib.hid hz
  have HQ := Lib.hid hq
  clear hz hq
  go_enter Tryd.func76, Tryd.ntmps76
  go_wp2_with fail
  refine HZ.out.mono ?_
  rintro e w1 ⟨q, r, rfl, hq, n, rfl⟩
  have hq' := Lib.hid (HQ.out q hq)
  clear hq
  go_wp2
  go_ret
  rw [hq'.out]
  exact ⟨rfl, n, rfl⟩
/-- What the code of udivrem2by1 has ahead of its tests: the candidate, its rest, the lower word. -/
def c21q (uh ul v : W64) : W64 := addS (mulH v uh) uh (addC (mulL v uh) ul false) + 1#64
def c21l (uh ul v : W64) : W64 := addS (mulL v uh) ul false
def c21r (uh ul d v : W64) : W64 := ul - c21q uh ul v * d
theorem c21_spec (uh ul d : W64) (hd : 9223372036854775808 ≤ d.toNat) (hu : uh.toNat < d.toNat) (Q R : W64) (hQ : Q.toNat = (uh.toNat * 18446744073709551616 + ul.toNat) / d.toNat) (hR : R.toNat = (uh.toNat * 18446744073709551616 + ul.toNat) % d.toNat) :
    let q := c21q uh ul (recW d); let l := c21l uh ul (recW d); let r := c21r uh ul d (recW d);
    (l < r → d ≤ r + d → q - 1#64 + 1#64 = Q ∧ r + d - d = R) ∧ (l < r → ¬ d ≤ r + d → q - 1#64 = Q ∧ r + d = R) ∧ (¬ l < r → d ≤ r → q + 1#64 = Q ∧ r - d = R) ∧ (¬ l < r → ¬ d ≤ r → q = Q ∧ r = R) := by
  intro q l r
  have hv := recW_toNat d hd
  obtain ⟨vb, vb2, vb3⟩ := recip_bounds d.toNat _ (by omega) d.isLt hv
  have hm := mul_spec (recW d) uh
  have h1 := add_spec' (mulL (recW d) uh) ul false
  have h2 := add_spec' (mulH (recW d) uh) uh (addC (mulL (recW d) uh) ul false)
  -- no carry leaves the upper word
  have hub : uh.toNat + 1 ≤ d.toNat := hu
  have htot : (18446744073709551616 + (recW d).toNat) * uh.toNat + ul.toNat < 340282366920938463463374607431768211456 := by
    have a1 : (18446744073709551616 + (recW d).toNat) * (uh.toNat + 1) ≤ (18446744073709551616 + (recW d).toNat) * d.toNat := Nat.mul_le_mul_left _ hub
    rw [Nat.mul_add, Nat.mul_one] at a1
    have := ul.isLt
    omega
  have hexp : (18446744073709551616 + (recW d).toNat) * uh.toNat = 18446744073709551616 * uh.toNat + (recW d).toNat * uh.toNat := Nat.add_mul _ _ _
  rw [hexp] at htot
  have ll : l.toNat < 18446744073709551616 := l.isLt
  have b1 := (addS (mulH (recW d) uh) uh (addC (mulL (recW d) uh) ul false)).isLt
  have c1 : (addC (mulH (recW d) uh) uh (addC (mulL (recW d) uh) ul false)).toNat ≤ 1 := by cases addC (mulH (recW d) uh) uh (addC (mulL (recW d) uh) ul false) <;> decide
  obtain ⟨q1, hq1⟩ : ∃ q1, q1 = (addS (mulH (recW d) uh) uh (addC (mulL (recW d) uh) ul false)).toNat := ⟨_, rfl⟩
  have hl : l.toNat = (addS (mulL (recW d) uh) ul false).toNat := rfl
  rw [← hq1] at h2 b1
  rw [← hl] at h1
  simp only [Bool.toNat_false] at h1
  have hsum : q1 * 18446744073709551616 + l.toNat = (18446744073709551616 + (recW d).toNat) * uh.toNat + ul.toNat := by
    rw [hexp]
    generalize (recW d).toNat * uh.toNat = p at *
    omega
  have hqe : q = BitVec.ofNat 64 (q1 + 1) := by
    apply BitVec.eq_of_toNat_eq
    show (addS (mulH (recW d) uh) uh (addC (mulL (recW d) uh) ul false) + 1#64).toNat = _
    rw [BitVec.toNat_add, ← hq1, BitVec.toNat_ofNat, BitVec.toNat_ofNat]
  have hrt : r.toNat = (18446744073709551616 - ((q1 + 1) % 18446744073709551616 * d.toNat) % 18446744073709551616 + ul.toNat) % 18446744073709551616 := by
    show (ul - q * d).toNat = _
    rw [hqe, BitVec.toNat_sub, BitVec.toNat_mul, BitVec.toNat_ofNat]
  have hrm : ((r.toNat : Int) - ((ul.toNat : Int) - ((q1 : Int) + 1) * (d.toNat : Int))) % 18446744073709551616 = 0 := by
    have e1 : ((q1 + 1) % 18446744073709551616 * d.toNat) % 18446744073709551616 = ((q1 + 1) * d.toNat) % 18446744073709551616 := by
      rw [Nat.mul_mod, Nat.mod_mod, ← Nat.mul_mod]
    rw [e1] at hrt
    have e2 : ((q1 : Int) + 1) * (d.toNat : Int) = (((q1 + 1) * d.toNat : Nat) : Int) := by simp
    rw [e2]
    generalize (q1 + 1) * d.toNat = p at *
    omega
  have M := mg_nat d.toNat (recW d).toNat uh.toNat ul.toNat q1 l.toNat r.toNat Q.toNat R.toNat (by omega) d.isLt hv hu ul.isLt hsum ll r.isLt hrm hQ hR
  obtain ⟨M0, M1, M2, M3, M4⟩ := M
  have erd : (r + d).toNat = (r.toNat + d.toNat) % 18446744073709551616 := BitVec.toNat_add _ _
  have dl := d.isLt
  have rl := r.isLt
  have Rl : R.toNat < d.toNat := by rw [hR]; exact Nat.mod_lt _ (by omega)
  refine ⟨fun a b => ?_, fun a b => ?_, fun a b => ?_, fun a b => ?_⟩
  · rw [BitVec.lt_def] at a
    rw [BitVec.le_def, erd] at b
    obtain ⟨k1, k2⟩ := M1 a b
    refine ⟨BitVec.eq_of_toNat_eq ?_, BitVec.eq_of_toNat_eq ?_⟩
    · rw [hqe, BitVec.sub_add_cancel, BitVec.toNat_ofNat, k1]; omega
    · rw [BitVec.toNat_sub_of_le (by rw [BitVec.le_def, erd]; exact b), erd, k2]
  · rw [BitVec.lt_def] at a
    rw [BitVec.le_def, erd] at b
    obtain ⟨k1, k2⟩ := M2 a b
    refine ⟨BitVec.eq_of_toNat_eq ?_, BitVec.eq_of_toNat_eq ?_⟩
    · rw [hqe, BitVec.toNat_sub, BitVec.toNat_ofNat, BitVec.toNat_ofNat, k1]; omega
    · rw [erd, k2]
  · rw [BitVec.lt_def] at a
    rw [BitVec.le_def] at b
    obtain ⟨k1, k2⟩ := M3 a b
    refine ⟨BitVec.eq_of_toNat_eq ?_, BitVec.eq_of_toNat_eq ?_⟩
    · rw [hqe, BitVec.toNat_add, BitVec.toNat_ofNat, BitVec.toNat_ofNat, k1]; omega
    · rw [BitVec.toNat_sub_of_le (by rw [BitVec.le_def]; exact b), k2]
  · rw [BitVec.lt_def] at a
    rw [BitVec.le_def] at b
    obtain ⟨k1, k2⟩ := M4 a b
    refine ⟨BitVec.eq_of_toNat_eq ?_, BitVec.eq_of_toNat_eq ?_⟩
    · rw [hqe, BitVec.toNat_ofNat, k1]; omega
    · rw [k2]
/-- The quotient and the rest of two words by one. -/
def q21 (uh ul d : W64) : W64 := BitVec.ofNat 64 ((uh.toNat * 18446744073709551616 + ul.toNat) / d.toNat)
def r21 (uh ul d : W64) : W64 := BitVec.ofNat 64 ((uh.toNat * 18446744073709551616 + ul.toNat) % d.toNat)
theorem q21_toNat (uh ul d : W64) (hu : uh.toNat < d.toNat) : (q21 uh ul d).toNat = (uh.toNat * 18446744073709551616 + ul.toNat) / d.toNat := by
  unfold q21
  rw [BitVec.toNat_ofNat]
  apply Nat.mod_eq_of_lt
  refine (Nat.div_lt_iff_lt_mul (by omega)).2 ?_
  have := ul.isLt
  show _ < 18446744073709551616 * d.toNat
  omega
theorem r21_toNat (uh ul d : W64) (hu : uh.toNat < d.toNat) : (r21 uh ul d).toNat = (uh.toNat * 18446744073709551616 + ul.toNat) % d.toNat := by
  unfold r21
  rw [BitVec.toNat_ofNat]
  apply Nat.mod_eq_of_lt
  exact Nat.lt_trans (Nat.mod_lt _ (by omega)) d.isLt
set_option maxHeartbeats 1000000 in
theorem udivrem2by1_any (uh ul d : W64) (w : World) (hd : 9223372036854775808 ≤ d.toNat) (hu : uh.toNat < d.toNat) :
    Calls Tryd.prog 77 #[V uh, V ul, V d, V (recW d)] w fun e w' => e = .returned (.tuple #[V (q21 uh ul d), V (r21 uh ul d)]) ∧ w = w' := by
  have S := c21_spec uh ul d hd hu (q21 uh ul d) (r21 uh ul d) (q21_toNat uh ul d hu) (r21_toNat uh ul d hu)
  simp only at S
  have HS := Lib.hid S
  clear S hd hu
  generalize recW d = v at *
  generalize q21 uh ul d = Q at *
  generalize r21 uh ul d = R at *
  by_cases h1 : c21l uh ul v < c21r uh ul d v
  · by_cases h2 : d ≤ c21r uh ul d v + d
    · have E := Lib.hid (HS.out.1 h1 h2)
      unfold c21r c21l c21q at h1
      unfold c21r c21q at h2
      go_enter Tryd.func77, Tryd.ntmps77
      go_wp2_with (go_at_call 78; refine (mul64_any _ _ _).mono ?_; rintro e w' ⟨rfl, rfl⟩)
      go_ret2
      rw [← E.out.1, ← E.out.2]
      exact ⟨rfl, rfl⟩
    · have E := Lib.hid (HS.out.2.1 h1 h2)
      unfold c21r c21l c21q at h1
      unfold c21r c21q at h2
      go_enter Tryd.func77, Tryd.ntmps77
      go_wp2_with (go_at_call 78; refine (mul64_any _ _ _).mono ?_; rintro e w' ⟨rfl, rfl⟩)
      go_ret2
      rw [← E.out.1, ← E.out.2]
      exact ⟨rfl, rfl⟩
  · by_cases h2 : d ≤ c21r uh ul d v
    · have E := Lib.hid (HS.out.2.2.1 h1 h2)
      unfold c21r c21l c21q at h1
      unfold c21r c21q at h2
      go_enter Tryd.func77, Tryd.ntmps77
      go_wp2_with (go_at_call 78; refine (mul64_any _ _ _).mono ?_; rintro e w' ⟨rfl, rfl⟩)
      go_ret2
      rw [← E.out.1, ← E.out.2]
      exact ⟨rfl, rfl⟩
    · have E := Lib.hid (HS.out.2.2.2 h1 h2)
      unfold c21r c21l c21q at h1
      unfold c21r c21q at h2
      go_enter Tryd.func77, Tryd.ntmps77
      go_wp2_with (go_at_call 78; refine (mul64_any _ _ _).mono ?_; rintro e w' ⟨rfl, rfl⟩)
      go_ret2
      rw [← E.out.1, ← E.out.2]
      exact ⟨rfl, rfl⟩
end Go.Proofs.YtbgmeppidedfbaaDoor
