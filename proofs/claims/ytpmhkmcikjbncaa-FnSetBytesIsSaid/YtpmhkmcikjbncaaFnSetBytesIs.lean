/-
  For every number and every slice of bytes: SetBytes is the number of the last 32 bytes, whatever the receiver was (the statement FnSetBytesIsSaid, no conditions).
-/
import Derived.Test.YtpmhkmcikjbncaaOpen2
import Derived.Test.YtpmhkmcikjbncaaSbZ
import Derived.Test.YtpmhkmcikjbncaaOfB
import Derived.Test.YtpmhkmcikjbncaaEql
namespace Go.Proofs.Ytpmhkmcikjbncaa.fnSetBytesIs
open Go.ChangeShapes Go.WideShapes Go.ChangeAt Go.RowKit
set_option linter.unusedVariables false
set_option linter.unusedSimpArgs false

set_option maxHeartbeats 1000000 in
theorem walk (w : World) (z : N4) (v : Value) (l : List UInt8) (hv : SlB w v l) : Calls Try.prog 10 #[z.v, v] w (RetBel (.bool true) w) := by
  obtain ⟨A, cap, n, rfl, hn, hcap, hv⟩ : ∃ A cap n, v = .slice A n cap ∧ n = l.length ∧ n ≤ cap ∧ SlB w (.slice A n cap) l := by
    have h2 := hv
    obtain ⟨A, cap, rfl, hc, _⟩ := hv
    exact ⟨A, cap, _, rfl, rfl, hc, h2⟩
  have HN := Lib.hid hn
  have HV := Lib.hid hv
  clear hn hv
  by_cases c1 : 2147483647 < n
  · go_enter Try.func10, Try.ntmps10
    go_wp2
    go_ret
    exact retBel rfl (bel_alloc (bel_refl w) _)
  · have HL : Hid (l.length ≤ 2147483647) := by show _ ≤ _; rw [← HN.out]; omega
    obtain ⟨y, hy⟩ : ∃ y, ofN (Lib.beNat (l.drop (l.length - 32))) = y := ⟨_, rfl⟩
    have SET : Hid (∀ w, SlB w (.slice A n cap) l → Calls Try.prog 30 #[z.v, .slice A n cap] w (RetBel y.v w)) := fun w h => by rw [← hy]; exact implSetBytes_any z _ l w h HL.out
    have OFB : Hid (∀ w, SlB w (.slice A n cap) l → Calls Try.prog 31 #[.slice A n cap] w (RetBel y.v w)) := fun w h => by rw [← hy]; exact ofBytes_any _ l w h (by have := HL.out; omega)
    have e1 : decide (y = y) = true := by simp
    clear hy HL
    go_enter Try.func10, Try.ntmps10
    go_wp2_with (first
      | (go_at_call 30; refine (SET.out _ (HV.out.alloc _)).mono ?_; rintro e w1 ⟨rfl, hb1⟩; have HB1 := Lib.hid (bel_trans (bel_alloc (bel_refl w) _) hb1))
      | (go_at_call 31; refine (OFB.out _ (HV.out.bel HB1.out)).mono ?_; rintro e w2 ⟨rfl, hb2⟩; have HB2 := Lib.hid (bel_trans HB1.out hb2)))
    go_ret
    exact retBel (by simp [N4.eqb]) HB2.out

set_option maxRecDepth 100000 in
theorem lifted (os : Os) (started : os.Started) (H : Type) (enc : TypeId × Value → H) :
    ReturnsInHanded {} Try.checked os 10 .any (Rows.fnSetBytesIsSpec.pre6 enc Try.prog Try.f10 Rows.fnSetBytesIsRow.domain false) (Rows.fnSetBytesIsSpec.post enc Try.prog Try.f10 false true false false) := by
  refine returnsInHanded_of_change (C := Try.checked) Try.own started (by kernel_rfl) Try.func10
    (ChangeSpec.witness6 (enc := enc) (C := Try.checked) false ⟨#[], #[.agg #[.int .u64 0, .int .u64 0, .int .u64 0, .int .u64 0], .slice none 0 0], []⟩ 8 (by kernel_rfl) (by kernel_rfl) (by kernel_rfl) (by kernel_rfl)) ?_
  intro W base args ds gs before hval0 hW hcnd _
  have hval : ∀ (j : Nat) t v, Try.f10.params[j]? = some t → args[j]? = some v → Value.okWide Try.prog W .any base t v := hval0
  have hW' := hW
  obtain ⟨p, q, hA0, hV, rfl, hfz, hnd⟩ := hW
  have hA : DataW.TrodAll enc Try.prog W 0 (fun _ => true) true Try.f10.params.toList args.toList ds p := hA0
  rw [Try.params10] at hA hval
  obtain ⟨v0, vs0, d0, ds0, p0, q0, hargs, rfl, rfl, h0, r0⟩ := trodAll_cons hA
  obtain ⟨v1, vs1, d1, ds1, p1, q1, rfl, rfl, rfl, h1, r1⟩ := trodAll_cons r0
  obtain ⟨rfl, rfl, rfl⟩ := trodAll_nil r1
  obtain rfl : args = #[v0, v1] := by cases args; simp_all
  obtain ⟨rfl, rfl⟩ := trodVars_none hV
  have k0 := h0
  have lt0 : ∀ x ∈ p0, x.block < W.heap.size := by obtain ⟨m, hm⟩ := k0; exact DataW.trod_lt m _ _ _ hm
  obtain ⟨x0, rfl⟩ := open_num (hval 0 24 v0 rfl rfl)
  have k1 := h1
  have lt1 : ∀ x ∈ p1, x.block < W.heap.size := by obtain ⟨m, hm⟩ := k1; exact DataW.trod_lt m _ _ _ hm
  obtain ⟨x1, g1⟩ := open_bytes (hval 1 25 v1 rfl rfl) h1
  clear hA0 hval0
  refine (walk W x0 v1 x1 g1).mono fun e W' ⟨he, bel⟩ => ?_
  subst he
  exact ⟨_, rfl, _, _, _, [], _, [], hW', trodAll_mk1 (shut_bool Try.underlying4 _), (trodAll_cons_mk (Below.trod Try.laidOut (by kernel_rfl) (of_decide_eq_true (by kernel_rfl)) k0 bel lt0) (trodAll_cons_mk (Below.trod Try.laidOut (by kernel_rfl) (of_decide_eq_true (by kernel_rfl)) k1 bel lt1) trodAll_mk0)), rfl, bel.frame _, fun h => by cases h⟩

theorem holds : Rows.FnSetBytesIsSaid :=
  OpenClaim.holds_of_wide 10 Try.f10 rfl rfl rfl rfl rfl rfl rfl ⟨rfl, rfl, rfl, rfl, rfl⟩ rfl rfl rfl rfl rfl (by kernel_rfl) Try.func10 (by kernel_rfl)
    (of_decide_eq_true (by kernel_rfl)) (by unfold Func.isWrapper; first | (rw [if_pos (by decide +kernel)]; kernel_rfl) | (rw [if_neg (by decide +kernel)]; exact ⟨rfl, rfl⟩))
    (fun os started H enc _ => lifted os started H enc)
#print axioms holds
end Go.Proofs.Ytpmhkmcikjbncaa.fnSetBytesIs
