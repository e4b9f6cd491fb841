/-
  Contracts of UnmarshalSSZ and of the thin package's ReadSsz; the closed facts on fmt.Errorf as the model has it.
-/
import Derived.Test.YtpmhkmcikjbncaaFmtSb
import Derived.Test.YtpmhkmcikjbncaaFmtHeldM
import Derived.Stop.CallBack
import Derived.Stop.IfaceNil
import GoSem.ClaimData
namespace Go.Proofs.YtpmhkmcikjbncaaFmt
open Go.RowKit
open Go.Extern.Stop Go.Stop Go.Extern
set_option linter.unusedVariables false
set_option linter.unusedSimpArgs false
set_option maxRecDepth 100000
@[go_sem] theorem Tryf.callErrorf (args : Array Value) (w : World) : (callFunc 62 args).run Tryf.prog w = ((FmtStop.errorf #[9, 64] #[40] args).run Tryf.prog w).andThen fun v w' => .ok (.value v) w' :=
  run_callFunc_extern Tryf.func62 (by kernel_rfl) (by kernel_rfl) (by kernel_rfl) (by kernel_rfl) args w
@[go_sem] theorem Tryf.fmtGuard (name : String) (w : World) : (FmtStop.guard name).run Tryf.prog w = .ok () w := by kernel_rfl
@[go_sem] theorem Tryf.fmtSsz : FmtStop.printed? ⟨#[37, 119, 58, 32, 104, 97, 118, 101, 32, 37, 100, 44, 32, 119, 97, 110, 116, 32, 37, 100, 32, 98, 121, 116, 101, 115]⟩ 3 = some [(0, 119, false), (1, 100, false), (2, 100, false)] := by kernel_rfl
@[go_sem] theorem Tryf.fmtSszr (w : World) : (FmtDoors.printed ⟨#[37, 119, 58, 32, 104, 97, 118, 101, 32, 37, 100, 44, 32, 119, 97, 110, 116, 32, 37, 100, 32, 98, 121, 116, 101, 115]⟩ 3).run Tryf.prog w = .ok [(0, 119, false), (1, 100, false), (2, 100, false)] w := by kernel_rfl
def Tryf.shapeInt : List UInt8 := [5, 3, 0, 0, 0, 0, 0, 0, 0, 105, 110, 116]
@[go_sem] theorem Tryf.opInt (name : String) (x : Int) (w : World) : (FmtStop.operand name true 100 false (.iface 3 (.int .i64 x))).run Tryf.prog w = .ok (Tryf.shapeInt, Go.Extern.Stop.digits 8 (x % 2 ^ 64).toNat) w := by kernel_rfl
def Tryf.plainErr : List UInt8 := 14 :: FmtStop.pack "*errors.errorString".toUTF8.data.toList
theorem Tryf.opPlainErr (name : String) (a : Addr) (s : ByteArray) (w : World) (hc : w.cell? a = some (.string s)) :
    (FmtStop.operand name true 119 false (.iface 73 (.pointer (some a)))).run Tryf.prog w = .ok (Tryf.plainErr, s.data.toList) w := by
  have h1 : (typeStr 73).run Tryf.prog w = .ok "*errors.errorString" w := by kernel_rfl
  have d2 : Tryf.t73.desc = .pointer 75 := rfl
  have d3 : Tryf.t75.desc = .named "errors.errorString" 74 := rfl
  simp [FmtStop.operand, h1, d2, d3, run_load, hc, Tryf.plainErr]
@[go_sem] theorem Tryf.ptrWrap (w : World) : (FmtStop.ptrTo "fmt.wrapError").run Tryf.prog w = .ok 66 w := by kernel_rfl
@[go_sem] theorem Tryf.elemWrap (w : World) : (elemOf 66).run Tryf.prog w = .ok 94 w := by kernel_rfl
@[go_sem] theorem Tryf.isErrorWrap (w : World) : (FmtDoors.textMethod 66 "Error").run Tryf.prog w = .ok true w := by kernel_rfl
@[go_sem] theorem Tryf.isErrorErr (w : World) : (FmtDoors.textMethod 73 "Error").run Tryf.prog w = .ok true w := by kernel_rfl
set_option maxHeartbeats 2000000 in
theorem unmarshal_bad (F : Interp) (base : Nat) (p : Value) (A : Option Addr) (n cap : Nat) (a : Addr) (s : ByteArray) (w : World) (hF : F.answers w.tape) (hg : w.cell? ⟨0, 0, none⟩ = some (.iface 73 (.pointer (some a))))
    (hs : w.cell? a = some (.string s)) (hn : ¬ n = 32) (hbw : base ≤ w.heap.size) :
    Calls Tryf.prog 12 #[p, .slice A n cap] w fun e w' => (∃ u, e = .returned (.iface 66 u)) ∧ Below base w w' := by
  have hF' : ∀ i name reading k range, w.tape i (.extern (word name reading k) range) = F name reading k := hF
  have hlt : a.block < w.heap.size := by
    rcases Nat.lt_or_ge a.block w.heap.size with h | h
    · exact h
    · simp [World.cell?, Array.getElem?_eq_none h] at hs
  have hop := fun (o : Obj) => Tryf.opPlainErr "fmt.errorf" a s (w.alloc o) (by simp only [World.cell?, World.alloc, Array.getElem?_push, Nat.ne_of_lt hlt, if_false]; exact hs)
  go_enter Tryf.func12, Tryf.ntmps12
  go_wp2
  go_ret
  exact ⟨⟨_, rfl⟩, (((Below.refl base w).alloc hbw _).alloc (by simp; omega) _).drew⟩
set_option maxHeartbeats 2000000 in
theorem unmarshal_ok (b o : Nat) (z : N4) (g q cap : Nat) (l : List UInt8) (w : World) (hz : At4 w b o z) (fz : Free4 w b o) (hB : BytesAt w g q l) (hl : l.length = 32) (hcap : 32 ≤ cap) (hne : g ≠ b) :
    Calls Tryf.prog 12 #[.pointer (some ⟨b, o, none⟩), .slice (some ⟨g, q, none⟩) 32 cap] w fun e w' => e = .returned .nilIface ∧ Left w b o (ofN (Lib.beNat l.reverse)) w' := by
  have hb := hz.lt
  have H := Left.start hz
  have k0 : ¬ cap = 0 := by omega
  have c8 : (8 : Int) ≤ (cap : Int) := by omega
  have n0 : (seg l 0 8).length = 8 := by rw [seg_len]; omega
  have L0 := beNat_lt (seg l 0 8).reverse
  rw [List.length_reverse, n0] at L0
  have k8 : ¬ cap = 8 := by omega
  have c16 : (16 : Int) ≤ (cap : Int) := by omega
  have n1 : (seg l 8 8).length = 8 := by rw [seg_len]; omega
  have L1 := beNat_lt (seg l 8 8).reverse
  rw [List.length_reverse, n1] at L1
  have k16 : ¬ cap = 16 := by omega
  have c24 : (24 : Int) ≤ (cap : Int) := by omega
  have n2 : (seg l 16 8).length = 8 := by rw [seg_len]; omega
  have L2 := beNat_lt (seg l 16 8).reverse
  rw [List.length_reverse, n2] at L2
  have k24 : ¬ cap = 24 := by omega
  have c32 : (32 : Int) ≤ (cap : Int) := by omega
  have n3 : (seg l 24 8).length = 8 := by rw [seg_len]; omega
  have L3 := beNat_lt (seg l 24 8).reverse
  rw [List.length_reverse, n3] at L3
  have HV : Hid (Lib.beNat l.reverse = Lib.beNat (seg l 0 8).reverse + 2 ^ 64 * Lib.beNat (seg l 8 8).reverse + 2 ^ 128 * Lib.beNat (seg l 16 8).reverse + 2 ^ 192 * Lib.beNat (seg l 24 8).reverse) := by
    show _ = _
    have e : l = seg l 0 8 ++ (seg l 8 8 ++ (seg l 16 8 ++ seg l 24 8)) := by
      have e1 : l = l.take 32 := (List.take_of_length_le (by omega)).symm
      rw [show l.take 32 = l.take 24 ++ seg l 24 8 from take_split l 24 8, show l.take 24 = l.take 16 ++ seg l 16 8 from take_split l 16 8, show l.take 16 = l.take 8 ++ seg l 8 8 from take_split l 8 8, ← seg_zero] at e1
      simpa [List.append_assoc] using e1
    have e2 : l.reverse = (((seg l 24 8).reverse ++ (seg l 16 8).reverse) ++ (seg l 8 8).reverse) ++ (seg l 0 8).reverse := by
      have := congrArg List.reverse e
      simpa [List.reverse_append, List.append_assoc] using this
    rw [e2, beNat_append, beNat_append, beNat_append]
    simp only [List.length_reverse, n0, n1, n2]
    omega
  go_enter Tryf.func12, Tryf.ntmps12
  go_wp2
  have hB1 : BytesAt _ g q (seg l 0 8) := (H.bytes hB hne).cut 0 8
  refine wp_region_noPanic ?_
  refine wp_region_held_drew (S := (fun _ => True)) (by kernel_rfl) (by all_goals exact trivial) (fun hHeld => ?_)
  refine hm_take (i := 0) (v := ?_) rfl rfl (by kernel_rfl) (by kernel_rfl) (by kernel_rfl) (fun _ _ _ h => h) rfl ?_ (by assumption) ?_
  rotate_left
  · (intro w hSw; (try dsimp only at hSw); go_simp; try with_reducible rfl)
  try simp only [Act.put, List.setIfInBounds_toArray, List.set_cons_zero, List.set_cons_succ]
  refine hm_take (i := 1) (v := ?_) rfl rfl (by kernel_rfl) (by kernel_rfl) (by kernel_rfl) (fun _ _ _ h => h) rfl ?_ (by assumption) ?_
  rotate_left
  · (intro w hSw; (try dsimp only at hSw); go_simp; try with_reducible rfl)
  try simp only [Act.put, List.setIfInBounds_toArray, List.set_cons_zero, List.set_cons_succ]
  refine hm_take (i := 2) (v := ?_) rfl rfl (by kernel_rfl) (by kernel_rfl) (by kernel_rfl) (fun _ _ _ h => h) rfl ?_ (by assumption) ?_
  rotate_left
  · (intro w hSw; (try dsimp only at hSw); go_simp; try with_reducible rfl)
  try simp only [Act.put, List.setIfInBounds_toArray, List.set_cons_zero, List.set_cons_succ]
  refine hm_take (i := 3) (v := ?_) rfl rfl (by kernel_rfl) (by kernel_rfl) (by kernel_rfl) (fun _ _ _ h => h) rfl ?_ (by assumption) ?_
  rotate_left
  · (intro w hSw; (try dsimp only at hSw); go_simp; try with_reducible rfl)
  try simp only [Act.put, List.setIfInBounds_toArray, List.set_cons_zero, List.set_cons_succ]
  refine hm_take (i := 5) (v := ?_) rfl rfl (by kernel_rfl) (by kernel_rfl) (by kernel_rfl) (fun _ _ _ h => h) rfl ?_ (by assumption) ?_
  rotate_left
  · (intro w hSw; (try dsimp only at hSw); go_simp; try with_reducible rfl)
  try simp only [Act.put, List.setIfInBounds_toArray, List.set_cons_zero, List.set_cons_succ]
  refine hm_call (i := 4) rfl (by kernel_rfl) rfl (fun K hK => ?_)
  go_simp
  (go_at_call 24; refine (rdL64_any _ _ _ _ (seg l 0 8) _ n0 (by omega) (BytesAt.bel hB1 (bel_drew (bel_refl _)))).mono ?_; rintro e w1 ⟨rfl, hb1⟩; have HH := H.drew.grow hb1; obtain ⟨y0, y1, y2, y3⟩ := HH.atz hz; obtain ⟨x0, x1, x2, x3⟩ := HH.frz fz hb)
  (try go_wp2_with fail)
  refine hK.out _ _ (by (try dsimp only); all_goals exact trivial) (fun hHeld => ?_)
  clear hK K
  try simp only [Act.put, List.setIfInBounds_toArray, List.set_cons_zero, List.set_cons_succ]
  refine hm_take (i := 6) (v := ?_) rfl rfl (by kernel_rfl) (by kernel_rfl) (by kernel_rfl) (fun _ _ _ h => h) rfl ?_ (by assumption) ?_
  rotate_left
  · (intro w hSw; (try dsimp only at hSw); go_simp; try with_reducible rfl)
  try simp only [Act.put, List.setIfInBounds_toArray, List.set_cons_zero, List.set_cons_succ]
  refine hm_call (i := 7) rfl (by kernel_rfl) rfl (fun K hK => ?_)
  (go_simp)
  refine hK.out _ _ (by (try dsimp only); all_goals exact trivial) (fun hHeld => ?_)
  clear hK K
  try simp only [Act.put, List.setIfInBounds_toArray, List.set_cons_zero, List.set_cons_succ]
  refine wpAnyH_done (by kernel_rfl) ?_ _
  refine NoPanic.normal ?_
  have H2 : Left w b o (N4.setW z 0 (BitVec.ofNat 64 (Lib.beNat (List.reverse (seg l 0 8))))) (World.setCell w1 ⟨b, o, none⟩ (.int .u64 ((Lib.beNat (List.reverse (seg l 0 8)) : Nat) : Int))) := by
    rw [← U_ofNat _ (by omega)]
    exact HH.one 0 (by omega) _
  clear H hB1 HH y0 y1 y2 y3 x0 x1 x2 x3 hb1
  revert H2
  generalize World.setCell _ _ _ = W1
  intro H
  go_wp2
  have hB1 : BytesAt _ g (q + 8) (seg l 8 8) := (H.bytes hB hne).cut 8 8
  refine wp_region_noPanic ?_
  refine wp_region_held_drew (S := (fun _ => True)) (by kernel_rfl) (by all_goals exact trivial) (fun hHeld => ?_)
  refine hm_take (i := 0) (v := ?_) rfl rfl (by kernel_rfl) (by kernel_rfl) (by kernel_rfl) (fun _ _ _ h => h) rfl ?_ (by assumption) ?_
  rotate_left
  · (intro w hSw; (try dsimp only at hSw); go_simp; try with_reducible rfl)
  try simp only [Act.put, List.setIfInBounds_toArray, List.set_cons_zero, List.set_cons_succ]
  refine hm_take (i := 1) (v := ?_) rfl rfl (by kernel_rfl) (by kernel_rfl) (by kernel_rfl) (fun _ _ _ h => h) rfl ?_ (by assumption) ?_
  rotate_left
  · (intro w hSw; (try dsimp only at hSw); go_simp; try with_reducible rfl)
  try simp only [Act.put, List.setIfInBounds_toArray, List.set_cons_zero, List.set_cons_succ]
  refine hm_take (i := 2) (v := ?_) rfl rfl (by kernel_rfl) (by kernel_rfl) (by kernel_rfl) (fun _ _ _ h => h) rfl ?_ (by assumption) ?_
  rotate_left
  · (intro w hSw; (try dsimp only at hSw); go_simp; try with_reducible rfl)
  try simp only [Act.put, List.setIfInBounds_toArray, List.set_cons_zero, List.set_cons_succ]
  refine hm_take (i := 3) (v := ?_) rfl rfl (by kernel_rfl) (by kernel_rfl) (by kernel_rfl) (fun _ _ _ h => h) rfl ?_ (by assumption) ?_
  rotate_left
  · (intro w hSw; (try dsimp only at hSw); go_simp; try with_reducible rfl)
  try simp only [Act.put, List.setIfInBounds_toArray, List.set_cons_zero, List.set_cons_succ]
  refine hm_take (i := 5) (v := ?_) rfl rfl (by kernel_rfl) (by kernel_rfl) (by kernel_rfl) (fun _ _ _ h => h) rfl ?_ (by assumption) ?_
  rotate_left
  · (intro w hSw; (try dsimp only at hSw); go_simp; try with_reducible rfl)
  try simp only [Act.put, List.setIfInBounds_toArray, List.set_cons_zero, List.set_cons_succ]
  refine hm_call (i := 4) rfl (by kernel_rfl) rfl (fun K hK => ?_)
  go_simp
  (go_at_call 24; refine (rdL64_any _ _ _ _ (seg l 8 8) _ n1 (by omega) (BytesAt.bel hB1 (bel_drew (bel_refl _)))).mono ?_; rintro e w1 ⟨rfl, hb1⟩; have HH := H.drew.grow hb1; obtain ⟨y0, y1, y2, y3⟩ := HH.atz hz; obtain ⟨x0, x1, x2, x3⟩ := HH.frz fz hb)
  (try go_wp2_with fail)
  refine hK.out _ _ (by (try dsimp only); all_goals exact trivial) (fun hHeld => ?_)
  clear hK K
  try simp only [Act.put, List.setIfInBounds_toArray, List.set_cons_zero, List.set_cons_succ]
  refine hm_take (i := 6) (v := ?_) rfl rfl (by kernel_rfl) (by kernel_rfl) (by kernel_rfl) (fun _ _ _ h => h) rfl ?_ (by assumption) ?_
  rotate_left
  · (intro w hSw; (try dsimp only at hSw); go_simp; try with_reducible rfl)
  try simp only [Act.put, List.setIfInBounds_toArray, List.set_cons_zero, List.set_cons_succ]
  refine hm_call (i := 7) rfl (by kernel_rfl) rfl (fun K hK => ?_)
  (go_simp)
  refine hK.out _ _ (by (try dsimp only); all_goals exact trivial) (fun hHeld => ?_)
  clear hK K
  try simp only [Act.put, List.setIfInBounds_toArray, List.set_cons_zero, List.set_cons_succ]
  refine wpAnyH_done (by kernel_rfl) ?_ _
  refine NoPanic.normal ?_
  have H2 : Left w b o (N4.setW (N4.setW z 0 (BitVec.ofNat 64 (Lib.beNat (List.reverse (seg l 0 8))))) 1 (BitVec.ofNat 64 (Lib.beNat (List.reverse (seg l 8 8))))) (World.setCell w1 ⟨b, o + 1, none⟩ (.int .u64 ((Lib.beNat (List.reverse (seg l 8 8)) : Nat) : Int))) := by
    rw [← U_ofNat _ (by omega)]
    exact HH.one 1 (by omega) _
  clear H hB1 HH y0 y1 y2 y3 x0 x1 x2 x3 hb1
  revert H2
  generalize World.setCell _ _ _ = W1
  intro H
  go_wp2
  have hB1 : BytesAt _ g (q + 16) (seg l 16 8) := (H.bytes hB hne).cut 16 8
  refine wp_region_noPanic ?_
  refine wp_region_held_drew (S := (fun _ => True)) (by kernel_rfl) (by all_goals exact trivial) (fun hHeld => ?_)
  refine hm_take (i := 0) (v := ?_) rfl rfl (by kernel_rfl) (by kernel_rfl) (by kernel_rfl) (fun _ _ _ h => h) rfl ?_ (by assumption) ?_
  rotate_left
  · (intro w hSw; (try dsimp only at hSw); go_simp; try with_reducible rfl)
  try simp only [Act.put, List.setIfInBounds_toArray, List.set_cons_zero, List.set_cons_succ]
  refine hm_take (i := 1) (v := ?_) rfl rfl (by kernel_rfl) (by kernel_rfl) (by kernel_rfl) (fun _ _ _ h => h) rfl ?_ (by assumption) ?_
  rotate_left
  · (intro w hSw; (try dsimp only at hSw); go_simp; try with_reducible rfl)
  try simp only [Act.put, List.setIfInBounds_toArray, List.set_cons_zero, List.set_cons_succ]
  refine hm_take (i := 2) (v := ?_) rfl rfl (by kernel_rfl) (by kernel_rfl) (by kernel_rfl) (fun _ _ _ h => h) rfl ?_ (by assumption) ?_
  rotate_left
  · (intro w hSw; (try dsimp only at hSw); go_simp; try with_reducible rfl)
  try simp only [Act.put, List.setIfInBounds_toArray, List.set_cons_zero, List.set_cons_succ]
  refine hm_take (i := 3) (v := ?_) rfl rfl (by kernel_rfl) (by kernel_rfl) (by kernel_rfl) (fun _ _ _ h => h) rfl ?_ (by assumption) ?_
  rotate_left
  · (intro w hSw; (try dsimp only at hSw); go_simp; try with_reducible rfl)
  try simp only [Act.put, List.setIfInBounds_toArray, List.set_cons_zero, List.set_cons_succ]
  refine hm_take (i := 5) (v := ?_) rfl rfl (by kernel_rfl) (by kernel_rfl) (by kernel_rfl) (fun _ _ _ h => h) rfl ?_ (by assumption) ?_
  rotate_left
  · (intro w hSw; (try dsimp only at hSw); go_simp; try with_reducible rfl)
  try simp only [Act.put, List.setIfInBounds_toArray, List.set_cons_zero, List.set_cons_succ]
  refine hm_call (i := 4) rfl (by kernel_rfl) rfl (fun K hK => ?_)
  go_simp
  (go_at_call 24; refine (rdL64_any _ _ _ _ (seg l 16 8) _ n2 (by omega) (BytesAt.bel hB1 (bel_drew (bel_refl _)))).mono ?_; rintro e w1 ⟨rfl, hb1⟩; have HH := H.drew.grow hb1; obtain ⟨y0, y1, y2, y3⟩ := HH.atz hz; obtain ⟨x0, x1, x2, x3⟩ := HH.frz fz hb)
  (try go_wp2_with fail)
  refine hK.out _ _ (by (try dsimp only); all_goals exact trivial) (fun hHeld => ?_)
  clear hK K
  try simp only [Act.put, List.setIfInBounds_toArray, List.set_cons_zero, List.set_cons_succ]
  refine hm_take (i := 6) (v := ?_) rfl rfl (by kernel_rfl) (by kernel_rfl) (by kernel_rfl) (fun _ _ _ h => h) rfl ?_ (by assumption) ?_
  rotate_left
  · (intro w hSw; (try dsimp only at hSw); go_simp; try with_reducible rfl)
  try simp only [Act.put, List.setIfInBounds_toArray, List.set_cons_zero, List.set_cons_succ]
  refine hm_call (i := 7) rfl (by kernel_rfl) rfl (fun K hK => ?_)
  (go_simp)
  refine hK.out _ _ (by (try dsimp only); all_goals exact trivial) (fun hHeld => ?_)
  clear hK K
  try simp only [Act.put, List.setIfInBounds_toArray, List.set_cons_zero, List.set_cons_succ]
  refine wpAnyH_done (by kernel_rfl) ?_ _
  refine NoPanic.normal ?_
  have H2 : Left w b o (N4.setW (N4.setW (N4.setW z 0 (BitVec.ofNat 64 (Lib.beNat (List.reverse (seg l 0 8))))) 1 (BitVec.ofNat 64 (Lib.beNat (List.reverse (seg l 8 8))))) 2 (BitVec.ofNat 64 (Lib.beNat (List.reverse (seg l 16 8))))) (World.setCell w1 ⟨b, o + 2, none⟩ (.int .u64 ((Lib.beNat (List.reverse (seg l 16 8)) : Nat) : Int))) := by
    rw [← U_ofNat _ (by omega)]
    exact HH.one 2 (by omega) _
  clear H hB1 HH y0 y1 y2 y3 x0 x1 x2 x3 hb1
  revert H2
  generalize World.setCell _ _ _ = W1
  intro H
  go_wp2
  have hB1 : BytesAt _ g (q + 24) (seg l 24 8) := (H.bytes hB hne).cut 24 8
  refine wp_region_noPanic ?_
  refine wp_region_held_drew (S := (fun _ => True)) (by kernel_rfl) (by all_goals exact trivial) (fun hHeld => ?_)
  refine hm_take (i := 0) (v := ?_) rfl rfl (by kernel_rfl) (by kernel_rfl) (by kernel_rfl) (fun _ _ _ h => h) rfl ?_ (by assumption) ?_
  rotate_left
  · (intro w hSw; (try dsimp only at hSw); go_simp; try with_reducible rfl)
  try simp only [Act.put, List.setIfInBounds_toArray, List.set_cons_zero, List.set_cons_succ]
  refine hm_take (i := 1) (v := ?_) rfl rfl (by kernel_rfl) (by kernel_rfl) (by kernel_rfl) (fun _ _ _ h => h) rfl ?_ (by assumption) ?_
  rotate_left
  · (intro w hSw; (try dsimp only at hSw); go_simp; try with_reducible rfl)
  try simp only [Act.put, List.setIfInBounds_toArray, List.set_cons_zero, List.set_cons_succ]
  refine hm_take (i := 2) (v := ?_) rfl rfl (by kernel_rfl) (by kernel_rfl) (by kernel_rfl) (fun _ _ _ h => h) rfl ?_ (by assumption) ?_
  rotate_left
  · (intro w hSw; (try dsimp only at hSw); go_simp; try with_reducible rfl)
  try simp only [Act.put, List.setIfInBounds_toArray, List.set_cons_zero, List.set_cons_succ]
  refine hm_take (i := 3) (v := ?_) rfl rfl (by kernel_rfl) (by kernel_rfl) (by kernel_rfl) (fun _ _ _ h => h) rfl ?_ (by assumption) ?_
  rotate_left
  · (intro w hSw; (try dsimp only at hSw); go_simp; try with_reducible rfl)
  try simp only [Act.put, List.setIfInBounds_toArray, List.set_cons_zero, List.set_cons_succ]
  refine hm_take (i := 5) (v := ?_) rfl rfl (by kernel_rfl) (by kernel_rfl) (by kernel_rfl) (fun _ _ _ h => h) rfl ?_ (by assumption) ?_
  rotate_left
  · (intro w hSw; (try dsimp only at hSw); go_simp; try with_reducible rfl)
  try simp only [Act.put, List.setIfInBounds_toArray, List.set_cons_zero, List.set_cons_succ]
  refine hm_call (i := 4) rfl (by kernel_rfl) rfl (fun K hK => ?_)
  go_simp
  (go_at_call 24; refine (rdL64_any _ _ _ _ (seg l 24 8) _ n3 (by omega) (BytesAt.bel hB1 (bel_drew (bel_refl _)))).mono ?_; rintro e w1 ⟨rfl, hb1⟩; have HH := H.drew.grow hb1; obtain ⟨y0, y1, y2, y3⟩ := HH.atz hz; obtain ⟨x0, x1, x2, x3⟩ := HH.frz fz hb)
  (try go_wp2_with fail)
  refine hK.out _ _ (by (try dsimp only); all_goals exact trivial) (fun hHeld => ?_)
  clear hK K
  try simp only [Act.put, List.setIfInBounds_toArray, List.set_cons_zero, List.set_cons_succ]
  refine hm_take (i := 6) (v := ?_) rfl rfl (by kernel_rfl) (by kernel_rfl) (by kernel_rfl) (fun _ _ _ h => h) rfl ?_ (by assumption) ?_
  rotate_left
  · (intro w hSw; (try dsimp only at hSw); go_simp; try with_reducible rfl)
  try simp only [Act.put, List.setIfInBounds_toArray, List.set_cons_zero, List.set_cons_succ]
  refine hm_call (i := 7) rfl (by kernel_rfl) rfl (fun K hK => ?_)
  (go_simp)
  refine hK.out _ _ (by (try dsimp only); all_goals exact trivial) (fun hHeld => ?_)
  clear hK K
  try simp only [Act.put, List.setIfInBounds_toArray, List.set_cons_zero, List.set_cons_succ]
  refine wpAnyH_done (by kernel_rfl) ?_ _
  refine NoPanic.normal ?_
  have H2 : Left w b o (N4.setW (N4.setW (N4.setW (N4.setW z 0 (BitVec.ofNat 64 (Lib.beNat (List.reverse (seg l 0 8))))) 1 (BitVec.ofNat 64 (Lib.beNat (List.reverse (seg l 8 8))))) 2 (BitVec.ofNat 64 (Lib.beNat (List.reverse (seg l 16 8))))) 3 (BitVec.ofNat 64 (Lib.beNat (List.reverse (seg l 24 8))))) (World.setCell w1 ⟨b, o + 3, none⟩ (.int .u64 ((Lib.beNat (List.reverse (seg l 24 8)) : Nat) : Int))) := by
    rw [← U_ofNat _ (by omega)]
    exact HH.one 3 (by omega) _
  clear H hB1 HH y0 y1 y2 y3 x0 x1 x2 x3 hb1
  revert H2
  generalize World.setCell _ _ _ = W1
  intro H
  go_wp2
  go_ret
  refine ⟨rfl, ?_⟩
  have e : (N4.setW (N4.setW (N4.setW (N4.setW z 0 (BitVec.ofNat 64 (Lib.beNat (List.reverse (seg l 0 8))))) 1 (BitVec.ofNat 64 (Lib.beNat (List.reverse (seg l 8 8))))) 2 (BitVec.ofNat 64 (Lib.beNat (List.reverse (seg l 16 8))))) 3 (BitVec.ofNat 64 (Lib.beNat (List.reverse (seg l 24 8))))) = ofN (Lib.beNat l.reverse) := by
    apply eq_ofN
    rw [HV.out]
    simp only [N4.setW, N4.toNat, if_true, if_false, reduceIte, BitVec.toNat_ofNat, show ¬ (2 : Nat) = 0 by omega, show ¬ (3 : Nat) = 0 by omega, show ¬ (1 : Nat) = 0 by omega, show ¬ (2 : Nat) = 1 by omega, show ¬ (3 : Nat) = 1 by omega, show ¬ (3 : Nat) = 2 by omega]
    omega
  rw [← e]
  exact H
theorem there_cells {w : World} {g : Nat} {a b c d : Value} (h : w.there g 0 4) : ((w.setCells g 0 [a, b, c, d]).cell? ⟨g, 0, none⟩ = some a ∧ (w.setCells g 0 [a, b, c, d]).cell? ⟨g, 1, none⟩ = some b) ∧ (w.setCells g 0 [a, b, c, d]).cell? ⟨g, 2, none⟩ = some c ∧ (w.setCells g 0 [a, b, c, d]).cell? ⟨g, 3, none⟩ = some d := by
  have h1 := World.rangeAt_setCells_same w g 0 [a, b, c, d] h
  exact ⟨⟨h1 0 _ rfl, h1 1 _ rfl⟩, h1 2 _ rfl, h1 3 _ rfl⟩
set_option maxHeartbeats 1000000 in
theorem checked_bad (p : Value) (t : TypeId) (u : Value) (w : World) : Calls Tryf.prog 14 #[p, .iface t u] w fun e w' => e = .returned (.tuple #[zeroN.v, .bool false]) ∧ Below w.heap.size w w' := by
  have hth : (w.alloc (.cells #[.int .u64 0, .int .u64 0, .int .u64 0, .int .u64 0] 25)).there w.heap.size 0 4 := there_new w 25 #[.int .u64 0, .int .u64 0, .int .u64 0, .int .u64 0] 4 (by simp)
  go_enter Tryf.func14, Tryf.ntmps14
  go_wp2_with (show wpList _ _ _ (⟨none, Op.store 25 _ _, _, _, _, _⟩ :: _) _ _; refine wpList_store_mid (op := ⟨none, Op.store 25 (.tmp 4) (.tmp 8), _, _, _, _⟩) rfl 25 _ _ rfl w.heap.size 0 [V zeroN.a, V zeroN.b, V zeroN.c, V zeroN.d].toArray rfl rfl hth (by kernel_rfl) (by simp [Value.oneCell']) ?_)
  refine bodyPost_ret (v := .tuple #[zeroN.v, .bool false]) (results_cell_slot rfl _ _ w.heap.size [V zeroN.a, V zeroN.b, V zeroN.c, V zeroN.d] _ rfl (World.rangeAt_setCells_same _ _ 0 _ hth) Tryf.underlying25 rfl (by kernel_rfl) rfl) rfl ⟨rfl, ?_⟩
  exact setCells_bel' (bel_alloc (bel_refl w) _) (Nat.le_refl _)
set_option maxHeartbeats 1000000 in
theorem checked_ok (b o : Nat) (x : N4) (w : World) (hx : At4 w b o x) : Calls Tryf.prog 14 #[.pointer (some ⟨b, o, none⟩), .nilIface] w fun e w' => e = .returned (.tuple #[x.v, .bool true]) ∧ Below w.heap.size w w' := by
  have hth : (w.alloc (.cells #[.int .u64 0, .int .u64 0, .int .u64 0, .int .u64 0] 25)).there w.heap.size 0 4 := there_new w 25 #[.int .u64 0, .int .u64 0, .int .u64 0, .int .u64 0] 4 (by simp)
  have HX := Lib.hid hx
  clear hx
  go_enter Tryf.func14, Tryf.ntmps14
  go_wp2_with fail
  refine (numOf_any b o x _ (HX.out.alloc _)).mono ?_
  rintro e w3 ⟨rfl, hb3⟩
  have hth3 := there_bel hth (by omega) hb3
  go_wp2_with (show wpList _ _ _ (⟨none, Op.store 25 _ _, _, _, _, _⟩ :: _) _ _; refine wpList_store_mid (op := ⟨none, Op.store 25 (.tmp 4) (.tmp 10), _, _, _, _⟩) rfl 25 _ _ rfl w.heap.size 0 [V x.a, V x.b, V x.c, V x.d].toArray rfl rfl hth3 (by kernel_rfl) (by simp [Value.oneCell']) ?_)
  refine bodyPost_ret (v := .tuple #[x.v, .bool true]) (results_cell_slot rfl _ _ w.heap.size [V x.a, V x.b, V x.c, V x.d] _ rfl (World.rangeAt_setCells_same _ _ 0 _ hth3) Tryf.underlying25 rfl (by kernel_rfl) rfl) rfl ⟨rfl, ?_⟩
  exact setCells_bel' (bel_trans (bel_alloc (bel_refl w) _) hb3) (Nat.le_refl _)
theorem leftR_grown {W W1 w' : World} {b o : Nat} {z : N4} (h : Below W.heap.size W W1) (k : Left W1 b o z w') (hb : W.heap.size ≤ b) : Below W.heap.size W w' :=
  (put4_bel h hb).trans (k.bel.mono h.size)
theorem own_openR {w : World} {base e : Nat} {v : Value} {l : List UInt8} (h : w.ownsRow base e 1 v l.length (Lib.byteCells l)) :
    (v = .slice none 0 0 ∧ l = []) ∨ ∃ g cap, v = .slice (some ⟨g, 0, none⟩) l.length cap ∧ l.length ≤ cap ∧ base ≤ g ∧ g < w.heap.size ∧ BytesAt w g 0 l := by
  rcases h.2 with ⟨h1, hn⟩ | ⟨g, cap, cur, h1, h2, _, h3, _⟩
  · exact .inl ⟨h1, List.eq_nil_of_length_eq_zero hn⟩
  · subst h1
    refine .inr ⟨g, cap, rfl, h3, h2, (h.lt g rfl).2, fun i b hb => ?_⟩
    have := h.cells (g := g) rfl i _ (bytes_get l i b hb)
    rwa [Addr.add_mid] at this
theorem there_left {w1 w2 : World} {g n B o : Nat} {y : N4} (h : w1.there g 0 n) (H : Left w1 B o y w2) (hne : ¬ g = B) : w2.there g 0 n := fun j hj => by
  have h0 := h j hj
  have hlt : g < w1.heap.size := by
    obtain ⟨o0, p0⟩ := Option.isSome_iff_exists.1 h0.1
    exact World.block_lt_of_cell? _ _ p0
  rw [(H.bel.cell (p := ⟨g, 0 + j, none⟩) hlt).trans (put4_cell _ _ _ _ _ _ (fun e => absurd e hne)), (H.bel.frozen (p := ⟨g, 0 + j, none⟩) hlt).trans (put4_frozen _ _ _ _ _)]
  exact h0
/-- What memory must hold for the error to be made: the sentinel, its text, and the outside's answers. -/
structure SszErr (F : Interp) (a : Addr) (s : ByteArray) (w : World) : Prop where
  ans : F.answers w.tape
  var : w.cell? ⟨0, 0, none⟩ = some (.iface 73 (.pointer (some a)))
  text : w.cell? a = some (.string s)
theorem SszErr.bel {F : Interp} {a : Addr} {s : ByteArray} {w w' : World} (h : SszErr F a s w) (k : Below w.heap.size w w') : SszErr F a s w' := by
  refine ⟨by rw [k.tape]; exact h.ans, bel_cell k h.var, ?_⟩
  have hlt : a.block < w.heap.size := by
    rcases Nat.lt_or_ge a.block w.heap.size with h1 | h1
    · exact h1
    · have := h.text; simp [World.cell?, Array.getElem?_eq_none h1] at this
  rw [k.cell hlt]
  exact h.text
set_option maxHeartbeats 1000000 in
theorem readSsz_bad (F : Interp) (a : Addr) (s : ByteArray) (v : Value) (l : List UInt8) (w : World) (hE : SszErr F a s w) (hv : SlB w v l) (hl : l.length ≤ 4294967296) (hn : ¬ l.length = 32) : Calls Tryf.prog 5 #[v] w fun e w' => e = .returned (.tuple #[zeroN.v, .bool false]) ∧ Below w.heap.size w w' := by
  have hth : (w.alloc (.cells #[.int .u64 0, .int .u64 0, .int .u64 0, .int .u64 0] 25)).there w.heap.size 0 4 := there_new w 25 #[.int .u64 0, .int .u64 0, .int .u64 0, .int .u64 0] 4 (by simp)
  go_enter Tryf.func5, Tryf.ntmps5
  go_wp2_with (first
    | (go_at_call 13; refine (copied_any v l _ ((hv.alloc _).alloc _) hl).mono ?_; rintro e w1 ⟨v1, rfl, hown, hb1⟩; have hb0 := bel_trans (bel_alloc (bel_alloc (bel_refl w) _) _) hb1; have E1 := Lib.hid (hE.bel hb0); have hth1 := there_bel (World.there_alloc hth _) (by omega) hb1; obtain ⟨A, cap, rfl⟩ : ∃ A cap, v1 = .slice A l.length cap := (by rcases own_openR hown with ⟨rfl, rfl⟩ | ⟨g, cap, rfl, _⟩ <;> exact ⟨_, _, rfl⟩); clear hown)
    | (go_at_call 12; refine (unmarshal_bad F _ _ A _ cap a s _ E1.out.ans E1.out.var E1.out.text hn (Nat.le_refl _)).mono ?_; rintro e w2 ⟨⟨u, rfl⟩, hb2⟩; have hth2 := there_bel hth1 (by omega) hb2)
    | (go_at_call 14; refine (checked_bad _ _ u _).mono ?_; rintro e w3 ⟨rfl, hb3⟩; have hth3 := there_bel hth2 (by omega) hb3; have hbw := Lib.hid (bel_trans (bel_trans hb0 hb2) hb3))
    | (show wpList _ _ _ (⟨none, Op.store 25 _ _, _, _, _, _⟩ :: _) _ _; refine wpList_store_mid (op := ⟨none, Op.store 25 (.tmp 2) (.tmp 14), _, _, _, _⟩) rfl 25 _ _ rfl w.heap.size 0 [V zeroN.a, V zeroN.b, V zeroN.c, V zeroN.d].toArray rfl rfl hth3 (by kernel_rfl) (by simp [Value.oneCell']) ?_))
  refine bodyPost_ret (v := .tuple #[zeroN.v, .bool false]) (results_cell_slot rfl _ _ w.heap.size [V zeroN.a, V zeroN.b, V zeroN.c, V zeroN.d] _ rfl (World.rangeAt_setCells_same _ _ 0 _ hth3) Tryf.underlying25 rfl (by kernel_rfl) rfl) rfl ⟨rfl, ?_⟩
  exact setCells_bel' hbw.out (Nat.le_refl _)
set_option maxHeartbeats 1000000 in
theorem readSsz_ok (v : Value) (l : List UInt8) (w : World) (hv : SlB w v l) (hn : l.length = 32) : Calls Tryf.prog 5 #[v] w fun e w' => e = .returned (.tuple #[(ofN (Lib.beNat l.reverse)).v, .bool true]) ∧ Below w.heap.size w w' := by
  have hth : (w.alloc (.cells #[.int .u64 0, .int .u64 0, .int .u64 0, .int .u64 0] 25)).there w.heap.size 0 4 := there_new w 25 #[.int .u64 0, .int .u64 0, .int .u64 0, .int .u64 0] 4 (by simp)
  obtain ⟨y, hy⟩ : ∃ y, ofN (Lib.beNat l.reverse) = y := ⟨_, rfl⟩
  rw [hy]
  have UN : Hid (∀ (b g cap : Nat) (w : World), At4 w b 0 zeroN → Free4 w b 0 → BytesAt w g 0 l → 32 ≤ cap → g ≠ b → Calls Tryf.prog 12 #[.pointer (some ⟨b, 0, none⟩), .slice (some ⟨g, 0, none⟩) 32 cap] w fun e w' => e = .returned .nilIface ∧ Left w b 0 y w') := fun b g cap w h1 h2 h3 h4 h5 => by
    rw [← hy]; exact unmarshal_ok b 0 zeroN g 0 cap l w h1 h2 h3 hn h4 h5
  clear hy
  have hZ : At4 ((w.alloc (.cells #[.int .u64 0, .int .u64 0, .int .u64 0, .int .u64 0] 25)).alloc (.cells #[.int .u64 0, .int .u64 0, .int .u64 0, .int .u64 0] 38)) (w.heap.size + 1) 0 zeroN := by constructor <;> simp [go_sem, zeroN, V, U]
  have hF : Free4 ((w.alloc (.cells #[.int .u64 0, .int .u64 0, .int .u64 0, .int .u64 0] 25)).alloc (.cells #[.int .u64 0, .int .u64 0, .int .u64 0, .int .u64 0] 38)) (w.heap.size + 1) 0 := by constructor <;> simp [go_sem]
  have HZ := Lib.hid hZ
  have HF := Lib.hid hF
  clear hZ hF
  go_enter Tryf.func5, Tryf.ntmps5
  go_wp2_with (first
    | (go_at_call 13; refine (copied_any v l _ ((hv.alloc _).alloc _) (by omega)).mono ?_; rintro e w1 ⟨v1, rfl, hown, hb1⟩; have hb0 := bel_trans (bel_alloc (bel_alloc (bel_refl w) _) _) hb1; have hth1 := there_bel (World.there_alloc hth _) (by omega) hb1; have Z1 := HZ.out.bel hb1; have F1 := HF.out.bel (by simp) hb1; obtain ⟨g, cap, rfl, hcap, hg1, hg2, hBy⟩ := (own_openR hown).resolve_left (fun h => by have := congrArg List.length h.2; rw [List.length_nil] at this; omega); simp at hg1; rw [hn] at hcap ⊢; clear hown)
    | (go_at_call 12; refine (UN.out _ g cap _ Z1 F1 hBy hcap (by omega)).mono ?_; rintro e w2 ⟨rfl, H⟩; have Z2 := Lib.hid (H.atz Z1); have hb2 := leftR_grown hb0 H (Nat.le_succ _); have hth2 := there_left hth1 H (by omega))
    | (go_at_call 14; refine (checked_ok _ 0 y _ Z2.out).mono ?_; rintro e w3 ⟨rfl, hb3⟩; have hth3 := there_bel hth2 (by omega) hb3; have hbw := Lib.hid (bel_trans hb2 hb3))
    | (show wpList _ _ _ (⟨none, Op.store 25 _ _, _, _, _, _⟩ :: _) _ _; refine wpList_store_mid (op := ⟨none, Op.store 25 (.tmp 2) (.tmp 14), _, _, _, _⟩) rfl 25 _ _ rfl w.heap.size 0 [V y.a, V y.b, V y.c, V y.d].toArray rfl rfl hth3 (by kernel_rfl) (by simp [Value.oneCell']) ?_))
  refine bodyPost_ret (v := .tuple #[y.v, .bool true]) (results_cell_slot rfl _ _ w.heap.size [V y.a, V y.b, V y.c, V y.d] _ rfl (World.rangeAt_setCells_same _ _ 0 _ hth3) Tryf.underlying25 rfl (by kernel_rfl) rfl) rfl ⟨rfl, ?_⟩
  exact setCells_bel' hbw.out (Nat.le_refl _)
end Go.Proofs.YtpmhkmcikjbncaaFmt
