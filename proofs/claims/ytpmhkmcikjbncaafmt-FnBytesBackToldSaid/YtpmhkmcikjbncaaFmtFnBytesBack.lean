/-
  For every number: what Bytes, Bytes32 and MarshalSSZ write is read back by SetBytes and UnmarshalSSZ (the statement FnBytesBackToldSaid; the sentinel ErrBadEncodedLength holds what its initialiser lays, tied to the program text; the texts of fmt are told by the model).
-/
import Derived.Test.YtpmhkmcikjbncaaFmtCards
import Derived.Test.YtpmhkmcikjbncaaFmtTie
import Derived.Test.YtpmhkmcikjbncaaFmtOpen
import Derived.Test.YtpmhkmcikjbncaaFmtSbZ
import Derived.Test.YtpmhkmcikjbncaaFmtSszR
import Derived.Test.YtpmhkmcikjbncaaFmtImpl1
import Derived.Test.YtpmhkmcikjbncaaFmtByt3
import Derived.Test.YtpmhkmcikjbncaaFmtSsz
import Derived.Test.YtpmhkmcikjbncaaFmtEql
import Derived.Test.YtpmhkmcikjbncaaFmtHeldM
import Derived.ChangeVars
import Derived.Stop.JoinedAt
import Derived.Stop.JoinedTold
import Derived.Stop.Texts
import Derived.Stop.ErrReads
import Derived.Stop.LaidErr
import Derived.SevenTiedAt
import Derived.WalkSmall
import Derived.ProofKit
namespace Go.Proofs.YtpmhkmcikjbncaaFmt.fnBytesBack
open Go.ChangeShapes Go.WideShapes Go.ChangeAt Go.RowKit
open Go.Extern.Stop Go.Stop Go.Extern
set_option linter.unusedVariables false
set_option linter.unusedSimpArgs false

theorem laidOut : laidOutB Tryf.pinned.checked.prog = true := by kernel_rfl
theorem eqs (x : N4) (l : List UInt8) (h : l.length ≤ 32) (hv : Lib.beNat l = x.toNat) : ofN (Lib.beNat (l.drop (l.length - 32))) = x := by
  rw [show l.length - 32 = 0 by omega, List.drop_zero, hv]
  exact (eq_ofN (Nat.mod_eq_of_lt (by have := N4.lt256 x; omega)).symm).symm
set_option maxHeartbeats 4000000 in
theorem walk (F : Interp) (a : Addr) (s : ByteArray) (w : World) (x : N4) (hE : SszErr F a s w) : Calls Tryf.prog 4 #[x.v] w (RetBel (.bool true) w) := by
  have READ : Hid (∀ v w, SlB w v (Lib.leBytes 32 x.toNat) → Calls Tryf.prog 5 #[v] w fun e w' => e = .returned (.tuple #[x.v, .bool true]) ∧ Below w.heap.size w w') := fun v w h => by
    have e := readSsz_ok v _ w h (le_len _ _)
    rw [beNat_rev_le, Nat.mod_eq_of_lt (N4.lt256 x), show ofN x.toNat = x from (eq_ofN (Nat.mod_eq_of_lt (by have := N4.lt256 x; omega)).symm).symm] at e
    exact e
  have SET : Hid (∀ z v n w, n ≤ 32 → x.toNat < 256 ^ n → SlB w v (Lib.beBytes n x.toNat) → Calls Tryf.prog 8 #[N4.v z, v] w (RetBel x.v w)) := fun z v n w hn hx h => by
    have e := implSetBytes_any z v _ w h (by rw [be_len]; omega)
    rw [eqs x _ (by rw [be_len]; exact hn) (by rw [beNat_be, Nat.mod_eq_of_lt hx])] at e
    exact e
  have ex := eqb_self x
  go_enter Tryf.func4, Tryf.ntmps4
  go_wp2_with (first
    | (go_at_call 7; refine (implSsz_any x _).mono ?_; rintro e w1 ⟨v1, rfl, s1, hb1⟩; have hbel1 := Lib.hid (bel_trans (bel_alloc (bel_refl w) _) hb1); have hat1 := Lib.hid (At4.bel (show At4 (w.alloc (Obj.cells #[V x.a, V x.b, V x.c, V x.d] 25)) w.heap.size 0 x by constructor <;> simp [go_sem]) hb1); have S1 := Lib.hid s1; clear s1 hb1)
    | (go_at_call 5; refine (READ.out _ _ S1.out).mono ?_; rintro e w2 ⟨rfl, hb2⟩; have hbel2 := Lib.hid (bel_trans hbel1.out hb2); have hat2 := Lib.hid (hat1.out.bel hb2); clear hb2))
  obtain ⟨W, hW⟩ : ∃ W, W = w2.alloc (Obj.cells #[V x.a, V x.b, V x.c, V x.d] 25) := ⟨_, rfl⟩
  have hbW : Below w.heap.size w W := by rw [hW]; exact bel_alloc hbel2.out _
  have hatW : At4 W w.heap.size 0 x := by rw [hW]; exact hat2.out.alloc _
  have hatY : At4 W w2.heap.size 0 x := by rw [hW]; constructor <;> simp [go_sem]
  have hlt : w.heap.size < W.heap.size := hatW.lt
  have hltY : w2.heap.size < W.heap.size := hatY.lt
  rw [← hW]
  clear hW
  obtain ⟨q0, q1, q2, q3⟩ := hatW
  obtain ⟨y0, y1, y2, y3⟩ := hatY
  refine wp_region_noPanic ?_
  refine wp_region_held_drew (S := (Keeps W.heap.size W)) (by kernel_rfl) (by exact Keeps.start _ _) (fun hHeld => ?_)
  refine hm_take (i := 1) (v := ?_) rfl rfl (by kernel_rfl) (by kernel_rfl) (by kernel_rfl) (fun _ _ _ h => h) rfl ?_ (by assumption) ?_
  rotate_left
  · (intro w hSw; (try dsimp only at hSw); go_simp; try with_reducible rfl)
  try simp only [Act.put, List.setIfInBounds_toArray, List.set_cons_zero, List.set_cons_succ]
  refine hm_take (i := 4) (v := ?_) rfl rfl (by kernel_rfl) (by kernel_rfl) (by kernel_rfl) (fun _ _ _ h => h) rfl ?_ (by assumption) ?_
  rotate_left
  · (intro w hSw; (try dsimp only at hSw); go_simp; try with_reducible rfl)
  try simp only [Act.put, List.setIfInBounds_toArray, List.set_cons_zero, List.set_cons_succ]
  refine hm_call (i := 0) rfl (by kernel_rfl) rfl (fun K hK => ?_)
  go_simp
  (go_at_call 9; refine (implAllOne_any _).mono ?_; rintro e w3 ⟨rfl, hb⟩)
  (try go_wp2_with fail)
  refine hK.out _ _ (by (try dsimp only); first | assumption | exact Keeps.step (by assumption) (Nat.le_refl _) hb) (fun hHeld => ?_)
  clear hK K
  try simp only [Act.put, List.setIfInBounds_toArray, List.set_cons_zero, List.set_cons_succ]
  refine hm_call (i := 2) rfl (by kernel_rfl) rfl (fun K hK => ?_)
  go_simp
  (go_at_call 10; refine (implBytes_any x _).mono ?_; rintro e w3 ⟨v2, rfl, s2, hb⟩)
  (try go_wp2_with fail)
  refine hK.out _ _ (by (try dsimp only); first | assumption | exact Keeps.step (by assumption) (Nat.le_refl _) hb) (fun hHeld => ?_)
  clear hK K
  try simp only [Act.put, List.setIfInBounds_toArray, List.set_cons_zero, List.set_cons_succ]
  refine hm_call (i := 3) rfl (by kernel_rfl) rfl (fun K hK => ?_)
  go_simp
  (go_at_call 8; refine (SET.out _ _ _ _ (nb_le x) (nb_lt x) s2).mono ?_; rintro e w3 ⟨rfl, hb⟩)
  (try go_wp2_with fail)
  refine hK.out _ _ (by (try dsimp only); first | assumption | exact Keeps.step (by assumption) (Nat.le_refl _) hb) (fun hHeld => ?_)
  clear hK K
  try simp only [Act.put, List.setIfInBounds_toArray, List.set_cons_zero, List.set_cons_succ]
  refine hm_take (i := 5) (v := ?_) rfl rfl (by kernel_rfl) (by kernel_rfl) (by kernel_rfl) (fun _ _ _ h => h) rfl ?_ (by assumption) ?_
  rotate_left
  · (intro w hSw; (try dsimp only at hSw); go_simp; try with_reducible rfl)
  try simp only [Act.put, List.setIfInBounds_toArray, List.set_cons_zero, List.set_cons_succ]
  refine hm_take (i := 6) (v := ?_) rfl rfl (by kernel_rfl) (by kernel_rfl) (by kernel_rfl) (fun _ _ _ h => h) rfl ?_ (by assumption) ?_
  rotate_left
  · (intro w hSw; (try dsimp only at hSw); go_simp; try with_reducible rfl)
  try simp only [Act.put, List.setIfInBounds_toArray, List.set_cons_zero, List.set_cons_succ]
  refine hm_take (i := 8) (v := ?_) rfl rfl (by kernel_rfl) (by kernel_rfl) (by kernel_rfl) (fun _ _ _ h => h) rfl ?_ (by assumption) ?_
  rotate_left
  · (intro w hSw; (try dsimp only at hSw); go_simp; try with_reducible rfl)
  try simp only [Act.put, List.setIfInBounds_toArray, List.set_cons_zero, List.set_cons_succ]
  refine hm_take (i := 11) (v := ?_) rfl rfl (by kernel_rfl) (by kernel_rfl) (by kernel_rfl) (fun _ _ _ h => h) rfl ?_ (by assumption) ?_
  rotate_left
  · (intro w hSw; (try dsimp only at hSw); go_simp; try with_reducible rfl)
  try simp only [Act.put, List.setIfInBounds_toArray, List.set_cons_zero, List.set_cons_succ]
  refine hm_call (i := 7) rfl (by kernel_rfl) rfl (fun K hK => ?_)
  go_simp
  (go_at_call 9; refine (implAllOne_any _).mono ?_; rintro e w3 ⟨rfl, hb⟩)
  (try go_wp2_with fail)
  refine hK.out _ _ (by (try dsimp only); first | assumption | exact Keeps.step (by assumption) (Nat.le_refl _) hb) (fun hHeld => ?_)
  clear hK K
  try simp only [Act.put, List.setIfInBounds_toArray, List.set_cons_zero, List.set_cons_succ]
  refine hm_call (i := 9) rfl (by kernel_rfl) rfl (fun K hK => ?_)
  go_simp
  (go_at_call 11; refine (implBytes32_any x _).mono ?_; rintro e w3 ⟨v3, rfl, s3, hb⟩)
  (try go_wp2_with fail)
  refine hK.out _ _ (by (try dsimp only); first | assumption | exact Keeps.step (by assumption) (Nat.le_refl _) hb) (fun hHeld => ?_)
  clear hK K
  try simp only [Act.put, List.setIfInBounds_toArray, List.set_cons_zero, List.set_cons_succ]
  refine hm_call (i := 10) rfl (by kernel_rfl) rfl (fun K hK => ?_)
  go_simp
  (go_at_call 8; refine (SET.out _ _ _ _ (Nat.le_refl _) (N4.lt256 x) s3).mono ?_; rintro e w3 ⟨rfl, hb⟩)
  (try go_wp2_with fail)
  refine hK.out _ _ (by (try dsimp only); first | assumption | exact Keeps.step (by assumption) (Nat.le_refl _) hb) (fun hHeld => ?_)
  clear hK K
  try simp only [Act.put, List.setIfInBounds_toArray, List.set_cons_zero, List.set_cons_succ]
  refine hm_take (i := 12) (v := ?_) rfl rfl (by kernel_rfl) (by kernel_rfl) (by kernel_rfl) (fun _ _ _ h => h) rfl ?_ (by assumption) ?_
  rotate_left
  · (intro w hSw; (try dsimp only at hSw); go_simp; try with_reducible rfl)
  try simp only [Act.put, List.setIfInBounds_toArray, List.set_cons_zero, List.set_cons_succ]
  refine hm_take (i := 13) (v := ?_) rfl rfl (by kernel_rfl) (by kernel_rfl) (by kernel_rfl) (fun _ _ _ h => h) rfl ?_ (by assumption) ?_
  rotate_left
  · (intro w hSw; (try dsimp only at hSw); go_simp; try with_reducible rfl)
  try simp only [Act.put, List.setIfInBounds_toArray, List.set_cons_zero, List.set_cons_succ]
  refine hm_take (i := 14) (v := ?_) rfl rfl (by kernel_rfl) (by kernel_rfl) (by kernel_rfl) (fun _ _ _ h => h) rfl ?_ (by assumption) ?_
  rotate_left
  · (intro w hSw; (try dsimp only at hSw); go_simp; try with_reducible rfl)
  try simp only [Act.put, List.setIfInBounds_toArray, List.set_cons_zero, List.set_cons_succ]
  refine hm_take (i := 15) (v := ?_) rfl rfl (by kernel_rfl) (by kernel_rfl) (by kernel_rfl) (fun _ _ _ h => h) rfl ?_ (by assumption) ?_
  rotate_left
  · (intro w hSw; (try dsimp only at hSw); go_simp; try with_reducible rfl)
  try simp only [Act.put, List.setIfInBounds_toArray, List.set_cons_zero, List.set_cons_succ]
  refine hm_take (i := 16) (v := ?_) rfl rfl (by kernel_rfl) (by kernel_rfl) (by kernel_rfl) (fun _ _ _ h => h) rfl ?_ (by assumption) ?_
  rotate_left
  · (intro w hSw; (try dsimp only at hSw); go_simp; try with_reducible rfl)
  try simp only [Act.put, List.setIfInBounds_toArray, List.set_cons_zero, List.set_cons_succ]
  refine hm_take (i := 17) (v := ?_) rfl rfl (by kernel_rfl) (by kernel_rfl) (by kernel_rfl) (fun _ _ _ h => h) rfl ?_ (by assumption) ?_
  rotate_left
  · (intro w hSw; (try dsimp only at hSw); go_simp; try with_reducible rfl)
  try simp only [Act.put, List.setIfInBounds_toArray, List.set_cons_zero, List.set_cons_succ]
  refine hm_take (i := 18) (v := ?_) rfl rfl (by kernel_rfl) (by kernel_rfl) (by kernel_rfl) (fun _ _ _ h => h) rfl ?_ (by assumption) ?_
  rotate_left
  · (intro w hSw; (try dsimp only at hSw); go_simp; try with_reducible rfl)
  try simp only [Act.put, List.setIfInBounds_toArray, List.set_cons_zero, List.set_cons_succ]
  refine hm_take (i := 19) (v := ?_) rfl rfl (by kernel_rfl) (by kernel_rfl) (by kernel_rfl) (fun _ _ _ h => h) rfl ?_ (by assumption) ?_
  rotate_left
  · (intro w hSw; (try dsimp only at hSw); go_simp; try with_reducible rfl)
  try simp only [Act.put, List.setIfInBounds_toArray, List.set_cons_zero, List.set_cons_succ]
  refine hm_take (i := 20) (v := ?_) rfl rfl (by kernel_rfl) (by kernel_rfl) (by kernel_rfl) (fun _ _ _ h => h) rfl ?_ (by assumption) ?_
  rotate_left
  · (intro w hSw; (try dsimp only at hSw); go_simp; try with_reducible rfl)
  try simp only [Act.put, List.setIfInBounds_toArray, List.set_cons_zero, List.set_cons_succ]
  refine hm_take (i := 21) (v := ?_) rfl rfl (by kernel_rfl) (by kernel_rfl) (by kernel_rfl) (fun _ _ _ h => h) rfl ?_ (by assumption) ?_
  rotate_left
  · (intro w hSw; (try dsimp only at hSw); go_simp; try with_reducible rfl)
  try simp only [Act.put, List.setIfInBounds_toArray, List.set_cons_zero, List.set_cons_succ]
  refine hm_take (i := 22) (v := ?_) rfl rfl (by kernel_rfl) (by kernel_rfl) (by kernel_rfl) (fun _ _ _ h => h) rfl ?_ (by assumption) ?_
  rotate_left
  · (intro w hSw; (try dsimp only at hSw); go_simp; try with_reducible rfl)
  try simp only [Act.put, List.setIfInBounds_toArray, List.set_cons_zero, List.set_cons_succ]
  refine hm_take (i := 23) (v := ?_) rfl rfl (by kernel_rfl) (by kernel_rfl) (by kernel_rfl) (fun _ _ _ h => h) rfl ?_ (by assumption) ?_
  rotate_left
  · (intro w hSw; (try dsimp only at hSw); go_simp; try with_reducible rfl)
  try simp only [Act.put, List.setIfInBounds_toArray, List.set_cons_zero, List.set_cons_succ]
  refine hm_take (i := 24) (v := ?_) rfl rfl (by kernel_rfl) (by kernel_rfl) (by kernel_rfl) (fun _ _ _ h => h) rfl ?_ (by assumption) ?_
  rotate_left
  · (intro w hSw; (try dsimp only at hSw); go_simp; try with_reducible rfl)
  try simp only [Act.put, List.setIfInBounds_toArray, List.set_cons_zero, List.set_cons_succ]
  refine hm_take (i := 25) (v := ?_) rfl rfl (by kernel_rfl) (by kernel_rfl) (by kernel_rfl) (fun _ _ _ h => h) rfl ?_ (by assumption) ?_
  rotate_left
  · (intro w hSw; (try dsimp only at hSw); go_simp; try with_reducible rfl)
  try simp only [Act.put, List.setIfInBounds_toArray, List.set_cons_zero, List.set_cons_succ]
  refine wpAnyH_done (by kernel_rfl) ?_ _
  refine NoPanic.normal ?_
  go_wp2
  go_ret
  exact retBel rfl ((‹Keeps _ _ _›).bel hbW.size hbW)

theorem own : ownKnob Tryf.prog.godebug = none := by kernel_rfl
theorem stops : Tryf.pinned.checked.prog.stops = ["fmt.errorf"] := by kernel_rfl
theorem stopKnobs : Tryf.pinned.checked.prog.stopKnobs = [] := by kernel_rfl
theorem quiet (os : Os) : Stop.quiet Tryf.pinned.checked.prog os := by
  intro k hk
  rw [stopKnobs] at hk
  cases hk
theorem gE : Tryf.prog.globalNamed "loop.example/pub-g03023/pub/uint256.ErrBadEncodedLength" = some 0 := by kernel_rfl
theorem gEType : (Tryf.prog.globals[0]?).map (·.type) = some 40 := by kernel_rfl
theorem cellsErr : Tryf.prog.cellsOf 75 = 1 := by kernel_rfl
theorem cellsStr : Tryf.prog.cellsOf 9 = 1 := by kernel_rfl
theorem star : "*" ++ "errors.errorString" = "*errors.errorString" := by decide
theorem rowErr (u : TypeId) (h : Tryf.prog.typeName? 3 u = some "*errors.errorString") : u = 73 :=
  typeName_ptr_named (nm := "errors.errorString") (by rw [star]; kernel_rfl) (by kernel_rfl) (by decide) u (by rw [star]; exact h)
/-- So many blocks has the settled world; that world with one block more, the sentinel's. -/
noncomputable def low : Nat := (World.holding Tryf.prog default ⟨#[], #[], []⟩).heap.size
noncomputable def laidWorld (os : Os) (g : Nat) (s : ByteArray) : World :=
  let w0 := World.holding Tryf.prog os ⟨#[.cells #[.string s] 75], #[], []⟩
  { w0 with heap := w0.heap.modify g fun
      | .cells _ t frozen => .cells #[.iface 73 (.pointer (some ⟨low, 0, none⟩))] t frozen
      | o => o }
theorem laid_met (os : Os) (args : Array Value) : laidMet Tryf.prog Rows.fnBytesBackRow.laid ((laidWorld os 0 ⟨#[98, 97, 100, 32, 115, 115, 122, 32, 101, 110, 99, 111, 100, 101, 100, 32, 108, 101, 110, 103, 116, 104]⟩).forCall (fun _ _ => 0) ⟨#[], args, []⟩).memory :=
  laidMet_of_run (ps := [.cell 0 0, .cell low 0]) 8 (by kernel_rfl) (by kernel_rfl) (by kernel_rfl)
set_option maxRecDepth 100000 in
theorem lifted (os : Os) (started : os.Started) (H : Type) (enc : TypeId × Value → H) :
    ReturnsInTold none {} Tryf.checked os 4 .any Input.okWide ((OpenSpec.ofChange Rows.fnBytesBackSpec).preRow enc Tryf.prog Tryf.f4 [] false Rows.fnBytesBackRow.laid) (fun F => ((OpenSpec.ofChange Rows.fnBytesBackSpec).at F).post enc Tryf.prog Tryf.f4 false true false false) (aloneAtReturn Tryf.prog) nothingAlways := by
  refine returnsInTold_of_row (C := Tryf.checked) (s := OpenSpec.ofChange Rows.fnBytesBackSpec) (by kernel_rfl) own started (by kernel_rfl) Tryf.func4
    (OpenSpec.witness_stopped_at (enc := enc) (C := Tryf.checked) false (laidWorld os 0 ⟨#[98, 97, 100, 32, 115, 115, 122, 32, 101, 110, 99, 111, 100, 101, 100, 32, 108, 101, 110, 103, 116, 104]⟩) #[.agg #[.int .u64 0, .int .u64 0, .int .u64 0, .int .u64 0]] rfl (by kernel_rfl) (by kernel_rfl) (by kernel_rfl)
      (OpenSpec.preRow_of_B rfl 8 (by kernel_rfl) (by kernel_rfl) (laid_met os _))) ?_
  intro F W base args ds gs before _ hF hval0 hW _ _ _ hL _
  have hval : ∀ (j : Nat) t v, Tryf.f4.params[j]? = some t → args[j]? = some v → Value.okWide Tryf.prog W .any base t v := hval0
  have hW' := hW
  obtain ⟨p, q, hA0, hV0, rfl, hfz, hnd⟩ := hW
  have hA : DataW.TrodAll enc Tryf.prog W 0 (fun _ => true) true Tryf.f4.params.toList args.toList ds p := hA0
  have hV : DataW.TrodVars enc Tryf.prog W (fun _ => true) ["loop.example/pub-g03023/pub/uint256.ErrBadEncodedLength"] gs q := hV0
  rw [Tryf.params4] at hA hval
  obtain ⟨v0, d0, rfl, rfl, h0⟩ := trodAll_one hA
  have k0 := h0
  have lt0 : ∀ x ∈ p, x.block < W.heap.size := by obtain ⟨m, hm⟩ := k0; exact DataW.trod_lt m _ _ _ hm
  obtain ⟨x, rfl⟩ := open_num (hval 0 25 v0 rfl rfl)
  obtain ⟨a0, s0, hv0, hc0, hs0, hz0⟩ := laid_sentinel hL gE gEType Tryf.underlying40 rowErr Tryf.underlying73 Tryf.underlying75 rfl rfl Tryf.underlying9 cellsErr cellsStr
  obtain ⟨rfl, rfl⟩ := hV.unique (vars_read1 enc gE gEType Tryf.underlying40 hv0 trivial _)
  have hg0 : W.cell? ⟨0, 0, none⟩ = some (.iface 73 (.pointer (some a0))) := by simpa using World.var?_cell gE hv0 0
  have hg1 : 0 < W.heap.size := World.block_lt_of_cell? _ _ hg0
  clear hA0 hV0 hval0
  refine (walk F.told a0 s0 W x ⟨hF, hg0, hc0⟩).mono fun e W' ⟨he, bel⟩ => ?_
  subst he
  exact ⟨_, rfl, _, _, _, [], _, _, hW', trodAll_mk1 (shut_bool Tryf.underlying4 _), trodAll_mk1 (Below.trod Tryf.laidOut (by kernel_rfl) (of_decide_eq_true (by kernel_rfl)) k0 bel lt0), vars_read1 enc gE gEType Tryf.underlying40 (var?_below bel gE hg1 hv0) trivial _, bel.frame _, fun h => by cases h⟩
theorem holds : Rows.FnBytesBackToldSaid :=
  Claim7.holds_of_told_tied_any_at .later 4 Tryf.f4 "fmt.errorf" [] [] _ _ _ _ _ (by kernel_rfl) rfl rfl rfl laidOut (by kernel_rfl) rfl ⟨rfl, rfl, rfl, rfl, rfl, rfl, rfl⟩ rfl rfl (by kernel_rfl) (by kernel_rfl) Tryf.func4 (by kernel_rfl)
    (of_decide_eq_true (by kernel_rfl)) (of_decide_eq_true (by kernel_rfl)) stops.symm rfl stopKnobs.symm (by kernel_rfl)
    (by kernel_rfl) (by kernel_rfl) (by kernel_rfl) (by kernel_rfl) (by kernel_rfl) (by kernel_rfl) (by kernel_rfl) (by kernel_rfl) (by kernel_rfl) rfl (by kernel_rfl) rfl rfl
    rfl rfl
    rfl (by kernel_rfl) (by kernel_rfl) (by kernel_rfl) (by decide) (by kernel_rfl) fnBytesBack_row_tie
    (OpenClaim.moreEntering_of (by kernel_rfl) (by kernel_rfl) (by kernel_rfl) (by kernel_rfl) (by kernel_rfl) (by kernel_rfl) (by kernel_rfl) (by kernel_rfl) (by kernel_rfl) (by kernel_rfl))
    ⟨_, WideRow.started_initial, quiet _⟩
    (fun os started _ H enc _ => lifted os started H enc)
#print axioms holds
end Go.Proofs.YtpmhkmcikjbncaaFmt.fnBytesBack
