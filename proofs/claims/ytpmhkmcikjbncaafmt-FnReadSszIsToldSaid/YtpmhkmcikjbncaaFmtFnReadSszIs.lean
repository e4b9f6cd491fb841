/-
  For every slice of bytes: UnmarshalSSZ is the number of 32 bytes, the lowest first, and refuses any other length (the statement FnReadSszIsToldSaid; the sentinel ErrBadEncodedLength holds what its initialiser lays, tied to the program text; the texts of fmt are told by the model).
-/
import Derived.Test.YtpmhkmcikjbncaaFmtCards
import Derived.Test.YtpmhkmcikjbncaaFmtTie
import Derived.Test.YtpmhkmcikjbncaaFmtOpen2
import Derived.Test.YtpmhkmcikjbncaaFmtOfB
import Derived.Test.YtpmhkmcikjbncaaFmtSszR
import Derived.Test.YtpmhkmcikjbncaaFmtEql
import Derived.Test.YtpmhkmcikjbncaaFmtHeldM
import Derived.ChangeVars
import Derived.Stop.JoinedAt
import Derived.Stop.JoinedTold
import Derived.Stop.Texts
import Derived.Stop.ErrReads
import Derived.Stop.LaidErr
import Derived.SevenTiedAt
import Derived.WalkSmall
import Derived.ProofKit
namespace Go.Proofs.YtpmhkmcikjbncaaFmt.fnReadSszIs
set_option maxRecDepth 20000
open Go.ChangeShapes Go.WideShapes Go.ChangeAt Go.RowKit
open Go.Extern.Stop Go.Stop Go.Extern
set_option linter.unusedVariables false
set_option linter.unusedSimpArgs false

theorem laidOut : laidOutB Tryf.pinned.checked.prog = true := by kernel_rfl
theorem rev_take (l : List UInt8) (k : Nat) (b : UInt8) (hk : k < l.length) (hb : l[l.length - 1 - k]? = some b) : l.reverse.take (k + 1) = l.reverse.take k ++ [b] := by
  rw [List.take_add_one, List.getElem?_reverse hk, hb]
  rfl
theorem bel_trans' {w w1 w2 : World} {ob : Obj} (h : Below w.heap.size w w1) (k : Below (w1.heap.size + 1) (w1.alloc ob) w2) : Below w.heap.size w w2 := (bel_alloc h ob).trans (k.mono (by have := h.size; omega))
set_option maxHeartbeats 2000000 in
theorem walk (F : Interp) (a : Addr) (s : ByteArray) (w : World) (v : Value) (l : List UInt8) (hv : SlB w v l) (hE : SszErr F a s w) : Calls Tryf.prog 3 #[v] w (RetBel (.bool true) w) := by
  obtain ⟨i0, hi, hz0, hz1, hz2⟩ := info_parts Tryf.infoByte
  obtain ⟨A, cap, n, rfl, hn, hcap, hv⟩ : ∃ A cap n, v = .slice A n cap ∧ n = l.length ∧ n ≤ cap ∧ SlB w (.slice A n cap) l := by
    have h2 := hv
    obtain ⟨A, cap, rfl, hc, _⟩ := hv
    exact ⟨A, cap, _, rfl, rfl, hc, h2⟩
  have HN := Lib.hid hn
  have HV := Lib.hid hv
  clear hn
  by_cases c1 : 2147483647 < n
  · go_enter Tryf.func3, Tryf.ntmps3
    go_wp2
    go_ret
    exact retBel rfl (bel_refl w)
  by_cases c2 : n = 32
  · subst c2
    obtain ⟨y, hy⟩ : ∃ y, ofN (Lib.beNat l.reverse) = y := ⟨_, rfl⟩
    have READ : Hid (∀ w, SlB w (.slice A 32 cap) l → Calls Tryf.prog 5 #[.slice A 32 cap] w fun e w' => e = .returned (.tuple #[y.v, .bool true]) ∧ Below w.heap.size w w') := fun w h => by
      rw [← hy]; exact readSsz_ok _ l w h HN.out.symm
    have OFB : Hid (∀ (v : Value) w, SlB w v l.reverse → Calls Tryf.prog 6 #[v] w (RetBel y.v w)) := fun v w h => by
      have e := ofBytes_any v l.reverse w h (by rw [List.length_reverse, ← HN.out]; omega)
      rw [List.length_reverse, ← HN.out, Nat.sub_self, List.drop_zero, hy] at e
      exact e
    have ey := eqb_self y
    obtain ⟨u0, hu0⟩ : ∃ u, l[0]? = some u := ⟨_, List.getElem?_eq_getElem (by rw [← HN.out]; omega)⟩
    obtain ⟨g, o, rfl, _⟩ := HV.out.first hu0
    clear hy hu0 hv
    go_enter Tryf.func3, Tryf.ntmps3
    go_wp2_with (go_at_call 5; refine (READ.out _ HV.out).mono ?_; rintro e w1 ⟨rfl, hb1⟩)
    have hsz1 := hb1.size
    have hown0 : ((w1.alloc (.cells #[V y.a, V y.b, V y.c, V y.d] 25)).alloc (.cells #[] 5)).ownsRow (w1.heap.size + 1) 5 1 (.slice (some ⟨w1.heap.size + 1, 0, none⟩) 0 0) 0 (Lib.byteCells (l.reverse.take 0)) := by
      have h := World.ownsRow_made (base := w1.heap.size + 1) (e := 5) (size := 1) (w1.alloc (.cells #[V y.a, V y.b, V y.c, V y.d] 25)) #[] 0 (by simp) (Nat.zero_le _) rfl
      simpa [Lib.byteCells] using h
    have HW := Lib.hid hown0
    clear hown0
    go_loopw [5, 6] (fun v t wr => ∃ (k : Nat) (u : Value), u = v ∧ k ≤ 32 ∧ t = .int .i64 ((k : Int) - 1) ∧ wr.ownsRow (w1.heap.size + 1) 5 1 u (32 - k) (Lib.byteCells (l.reverse.take (32 - k))) ∧ Below (w1.heap.size + 1) (w1.alloc (.cells #[V y.a, V y.b, V y.c, V y.d] 25)) wr) (fun _ t _ => (intOf t + 1).toNat)
    case atStart => exact ⟨32, _, rfl, by omega, rfl, HW.out, (Below.refl _ _).alloc (by simp) _⟩
    case round =>
      obtain ⟨k, u, rfl, hk, rfl, hown, hbel⟩ := hrel
      obtain ⟨wo, rfl⟩ : ∃ wo : World, wo = wr := ⟨_, rfl⟩
      have hsz2 := hbel.size
      simp at hsz2
      rcases Nat.eq_zero_or_pos k with h0 | h0
      · subst h0
        have hsl : Hid (SlB wo u l.reverse) := by
          show SlB _ _ _
          refine SlB.of_own (base := w1.heap.size + 1) (e := 5) ?_
          rw [List.length_reverse, ← HN.out]
          simpa [List.take_of_length_le, ← HN.out] using hown
        have HBL := Lib.hid hbel
        have at0 : At4 wo w1.heap.size 0 y := (show At4 (w1.alloc (.cells #[V y.a, V y.b, V y.c, V y.d] 25)) w1.heap.size 0 y by constructor <;> simp [go_sem]).bel' hbel (by omega)
        obtain ⟨q0, q1, q2, q3⟩ := at0
        have hlt0 : w1.heap.size < wo.heap.size := by omega
        clear hown hbel
        go_wp2
        refine wp_region_noPanic ?_
        refine wp_region_held_drew (S := (Keeps wo.heap.size wo)) (by kernel_rfl) (by exact Keeps.start _ _) (fun hHeld => ?_)
        refine hm_take (i := 0) (v := ?_) rfl rfl (by kernel_rfl) (by kernel_rfl) (by kernel_rfl) (fun _ _ _ h => h) rfl ?_ (by assumption) ?_
        rotate_left
        · (intro w hSw; (try dsimp only at hSw); go_simp; try with_reducible rfl)
        try simp only [Act.put, List.setIfInBounds_toArray, List.set_cons_zero, List.set_cons_succ]
        refine hm_take (i := 1) (v := ?_) rfl rfl (by kernel_rfl) (by kernel_rfl) (by kernel_rfl) (fun _ _ _ h => h) rfl ?_ (by assumption) ?_
        rotate_left
        · (intro w hSw; (try dsimp only at hSw); go_simp; try with_reducible rfl)
        try simp only [Act.put, List.setIfInBounds_toArray, List.set_cons_zero, List.set_cons_succ]
        refine hm_take (i := 2) (v := ?_) rfl rfl (by kernel_rfl) (by kernel_rfl) (by kernel_rfl) (fun _ _ _ h => h) rfl ?_ (by assumption) ?_
        rotate_left
        · (intro w hSw; (try dsimp only at hSw); go_simp; try with_reducible rfl)
        try simp only [Act.put, List.setIfInBounds_toArray, List.set_cons_zero, List.set_cons_succ]
        refine hm_take (i := 3) (v := ?_) rfl rfl (by kernel_rfl) (by kernel_rfl) (by kernel_rfl) (fun _ _ _ h => h) rfl ?_ (by assumption) ?_
        rotate_left
        · (intro w hSw; (try dsimp only at hSw); go_simp; try with_reducible rfl)
        try simp only [Act.put, List.setIfInBounds_toArray, List.set_cons_zero, List.set_cons_succ]
        refine hm_call (i := 4) rfl (by kernel_rfl) rfl (fun K hK => ?_)
        go_simp
        (go_at_call 6; refine (OFB.out _ _ (hsl.out.bel hHeld.2)).mono ?_; rintro e w3 ⟨rfl, hb⟩)
        (try go_wp2_with fail)
        refine hK.out _ _ (by (try dsimp only); first | assumption | exact Keeps.step (by assumption) (Nat.le_refl _) hb) (fun hHeld => ?_)
        clear hK K
        try simp only [Act.put, List.setIfInBounds_toArray, List.set_cons_zero, List.set_cons_succ]
        refine hm_take (i := 5) (v := ?_) rfl rfl (by kernel_rfl) (by kernel_rfl) (by kernel_rfl) (fun _ _ _ h => h) rfl ?_ (by assumption) ?_
        rotate_left
        · (intro w hSw; (try dsimp only at hSw); go_simp; try with_reducible rfl)
        try simp only [Act.put, List.setIfInBounds_toArray, List.set_cons_zero, List.set_cons_succ]
        refine hm_take (i := 6) (v := ?_) rfl rfl (by kernel_rfl) (by kernel_rfl) (by kernel_rfl) (fun _ _ _ h => h) rfl ?_ (by assumption) ?_
        rotate_left
        · (intro w hSw; (try dsimp only at hSw); go_simp; try with_reducible rfl)
        try simp only [Act.put, List.setIfInBounds_toArray, List.set_cons_zero, List.set_cons_succ]
        refine hm_take (i := 7) (v := ?_) rfl rfl (by kernel_rfl) (by kernel_rfl) (by kernel_rfl) (fun _ _ _ h => h) rfl ?_ (by assumption) ?_
        rotate_left
        · (intro w hSw; (try dsimp only at hSw); go_simp; try with_reducible rfl)
        try simp only [Act.put, List.setIfInBounds_toArray, List.set_cons_zero, List.set_cons_succ]
        refine wpAnyH_done (by kernel_rfl) ?_ _
        refine NoPanic.normal ?_
        go_wp2
        go_ret
        refine retBel rfl ?_
        exact ((‹Keeps _ _ _›).bel (by omega) (bel_trans' hb1 HBL.out))
      · obtain ⟨j, rfl⟩ : ∃ j, k = j + 1 := ⟨k - 1, by omega⟩
        have hj : ((j + 1 : Nat) : Int) - 1 = (j : Int) := by omega
        rw [hj]
        obtain ⟨b, hb⟩ : ∃ b, l[j]? = some b := ⟨_, List.getElem?_eq_getElem (by rw [← HN.out]; omega)⟩
        have hcell : wo.cell? ⟨g, o + j, none⟩ = some (.int .u8 (b.toNat : Int)) := by
          obtain ⟨g', p', e1, h1⟩ := HV.out.cellAt hb
          injection e1 with e1
          injection e1 with e1 e2
          subst e1 e2
          have hlt : g < w.heap.size := World.block_lt_of_cell? _ _ h1
          have h2 := bel_cell hb1 h1
          have h3 : (w1.alloc (.cells #[V y.a, V y.b, V y.c, V y.d] 25)).cell? ⟨g, o + j, none⟩ = some (.int .u8 (b.toNat : Int)) := bel_cell (bel_alloc (bel_refl w1) _) h2
          exact (hbel.cell (p := ⟨g, o + j, none⟩) (show g < w1.heap.size + 1 by omega)).trans h3
        have hjn : (j : Int) < 32 := by omega
        have hjn2 : j < 32 := by omega
        have HB := Lib.hid hb
        have H1 := Lib.hid hown
        clear hown hb
        go_wp2_with (at_builtin; refine wpList_append_own _ rfl _ _ 22 rfl (w1.heap.size + 1) 5 i0 (.int .u8 0) 1 1 Tryf.underlying22 hi hz0 hz1 hz2 rfl (by decide) _ _ _ rfl (H1.out.alloc _) ⟨wo.heap.size, 0, none⟩ 1 1 [.int .u8 (b.toNat : Int)] rfl rfl ?d1 ?d2 ?d3 ?d4 ?d5 ?_)
        case d1 =>
          intro i u hu
          match i with
          | 0 => simp at hu; subst hu; simp [Addr.add, go_sem]
          | i + 1 => simp at hu
        case d2 => intro u hu; simp at hu; subst hu; rfl
        case d3 => unfold maxLen; omega
        case d4 => omega
        case d5 => simp; omega
        intro v' w2 hown2 hgrow _
        have HO := H1.out
        have hown3 : w2.ownsRow (w1.heap.size + 1) 5 1 v' (32 - j) (Lib.byteCells (l.reverse.take (32 - j))) := by
          rw [show 32 - j = 31 - j + 1 by omega, rev_take _ (31 - j) b (by rw [← HN.out]; omega) (by rw [← HN.out, show 32 - 1 - (31 - j) = j by omega]; exact HB.out), Lib.byteCells_append]
          exact hown2
        have hbel3 : Below (w1.heap.size + 1) (w1.alloc (.cells #[V y.a, V y.b, V y.c, V y.d] 25)) w2 := (hbel.alloc (by omega) _).grown hgrow (by simp; omega) (fun g hg => (HO.lt g hg).1)
        clear hown2 hgrow HO
        go_wp2
        go_roundw
        case rel => exact ⟨j, _, rfl, by omega, rfl, hown3, hbel3⟩
        case measure => simp [intOf] <;> omega
  · have READ : Hid (∀ w, SszErr F a s w → SlB w (.slice A n cap) l → Calls Tryf.prog 5 #[.slice A n cap] w fun e w' => e = .returned (.tuple #[zeroN.v, .bool false]) ∧ Below w.heap.size w w') := fun w h1 h => readSsz_bad F a s _ l w h1 h (by rw [← HN.out]; omega) (by rw [← HN.out]; exact c2)
    clear hv
    go_enter Tryf.func3, Tryf.ntmps3
    go_wp2_with (go_at_call 5; refine (READ.out _ hE HV.out).mono ?_; rintro e w1 ⟨rfl, hb1⟩)
    go_ret
    exact retBel rfl (bel_alloc hb1 _)

theorem own : ownKnob Tryf.prog.godebug = none := by kernel_rfl
theorem stops : Tryf.pinned.checked.prog.stops = ["fmt.errorf"] := by kernel_rfl
theorem stopKnobs : Tryf.pinned.checked.prog.stopKnobs = [] := by kernel_rfl
theorem quiet (os : Os) : Stop.quiet Tryf.pinned.checked.prog os := by
  intro k hk
  rw [stopKnobs] at hk
  cases hk
theorem gE : Tryf.prog.globalNamed "loop.example/pub-g03023/pub/uint256.ErrBadEncodedLength" = some 0 := by kernel_rfl
theorem gEType : (Tryf.prog.globals[0]?).map (·.type) = some 40 := by kernel_rfl
theorem cellsErr : Tryf.prog.cellsOf 75 = 1 := by kernel_rfl
theorem cellsStr : Tryf.prog.cellsOf 9 = 1 := by kernel_rfl
theorem star : "*" ++ "errors.errorString" = "*errors.errorString" := by decide
theorem rowErr (u : TypeId) (h : Tryf.prog.typeName? 3 u = some "*errors.errorString") : u = 73 :=
  typeName_ptr_named (nm := "errors.errorString") (by rw [star]; kernel_rfl) (by kernel_rfl) (by decide) u (by rw [star]; exact h)
/-- So many blocks has the settled world; that world with one block more, the sentinel's. -/
noncomputable def low : Nat := (World.holding Tryf.prog default ⟨#[], #[], []⟩).heap.size
noncomputable def laidWorld (os : Os) (g : Nat) (s : ByteArray) : World :=
  let w0 := World.holding Tryf.prog os ⟨#[.cells #[.string s] 75], #[], []⟩
  { w0 with heap := w0.heap.modify g fun
      | .cells _ t frozen => .cells #[.iface 73 (.pointer (some ⟨low, 0, none⟩))] t frozen
      | o => o }
theorem laid_met (os : Os) (args : Array Value) : laidMet Tryf.prog Rows.fnReadSszIsRow.laid ((laidWorld os 0 ⟨#[98, 97, 100, 32, 115, 115, 122, 32, 101, 110, 99, 111, 100, 101, 100, 32, 108, 101, 110, 103, 116, 104]⟩).forCall (fun _ _ => 0) ⟨#[], args, []⟩).memory :=
  laidMet_of_run (ps := [.cell 0 0, .cell low 0]) 8 (by kernel_rfl) (by kernel_rfl) (by kernel_rfl)
set_option maxRecDepth 100000 in
theorem lifted (os : Os) (started : os.Started) (H : Type) (enc : TypeId × Value → H) :
    ReturnsInTold none {} Tryf.checked os 3 .any Input.okWide ((OpenSpec.ofChange Rows.fnReadSszIsSpec).preRow enc Tryf.prog Tryf.f3 [] false Rows.fnReadSszIsRow.laid) (fun F => ((OpenSpec.ofChange Rows.fnReadSszIsSpec).at F).post enc Tryf.prog Tryf.f3 false true false false) (aloneAtReturn Tryf.prog) nothingAlways := by
  refine returnsInTold_of_row (C := Tryf.checked) (s := OpenSpec.ofChange Rows.fnReadSszIsSpec) (by kernel_rfl) own started (by kernel_rfl) Tryf.func3
    (OpenSpec.witness_stopped_at (enc := enc) (C := Tryf.checked) false (laidWorld os 0 ⟨#[98, 97, 100, 32, 115, 115, 122, 32, 101, 110, 99, 111, 100, 101, 100, 32, 108, 101, 110, 103, 116, 104]⟩) #[.slice none 0 0] rfl (by kernel_rfl) (by kernel_rfl) (by kernel_rfl)
      (OpenSpec.preRow_of_B rfl 8 (by kernel_rfl) (by kernel_rfl) (laid_met os _))) ?_
  intro F W base args ds gs before _ hF hval0 hW _ _ _ hL _
  have hval : ∀ (j : Nat) t v, Tryf.f3.params[j]? = some t → args[j]? = some v → Value.okWide Tryf.prog W .any base t v := hval0
  have hW' := hW
  obtain ⟨p, q, hA0, hV0, rfl, hfz, hnd⟩ := hW
  have hA : DataW.TrodAll enc Tryf.prog W 0 (fun _ => true) true Tryf.f3.params.toList args.toList ds p := hA0
  have hV : DataW.TrodVars enc Tryf.prog W (fun _ => true) ["loop.example/pub-g03023/pub/uint256.ErrBadEncodedLength"] gs q := hV0
  rw [Tryf.params3] at hA hval
  obtain ⟨v0, d0, rfl, rfl, h0⟩ := trodAll_one hA
  have k0 := h0
  have lt0 : ∀ x ∈ p, x.block < W.heap.size := by obtain ⟨m, hm⟩ := k0; exact DataW.trod_lt m _ _ _ hm
  obtain ⟨l, hl⟩ := open_bytes (hval 0 22 v0 rfl rfl) h0
  obtain ⟨a0, s0, hv0, hc0, hs0, hz0⟩ := laid_sentinel hL gE gEType Tryf.underlying40 rowErr Tryf.underlying73 Tryf.underlying75 rfl rfl Tryf.underlying9 cellsErr cellsStr
  obtain ⟨rfl, rfl⟩ := hV.unique (vars_read1 enc gE gEType Tryf.underlying40 hv0 trivial _)
  have hg0 : W.cell? ⟨0, 0, none⟩ = some (.iface 73 (.pointer (some a0))) := by simpa using World.var?_cell gE hv0 0
  have hg1 : 0 < W.heap.size := World.block_lt_of_cell? _ _ hg0
  clear hA0 hV0 hval0
  refine (walk F.told a0 s0 W v0 l hl ⟨hF, hg0, hc0⟩).mono fun e W' ⟨he, bel⟩ => ?_
  subst he
  exact ⟨_, rfl, _, _, _, [], _, _, hW', trodAll_mk1 (shut_bool Tryf.underlying4 _), trodAll_mk1 (Below.trod Tryf.laidOut (by kernel_rfl) (of_decide_eq_true (by kernel_rfl)) k0 bel lt0), vars_read1 enc gE gEType Tryf.underlying40 (var?_below bel gE hg1 hv0) trivial _, bel.frame _, fun h => by cases h⟩
theorem holds : Rows.FnReadSszIsToldSaid :=
  Claim7.holds_of_told_tied_any_at .later 3 Tryf.f3 "fmt.errorf" [] [] _ _ _ _ _ (by kernel_rfl) rfl rfl rfl laidOut (by kernel_rfl) rfl ⟨rfl, rfl, rfl, rfl, rfl, rfl, rfl⟩ rfl rfl (by kernel_rfl) (by kernel_rfl) Tryf.func3 (by kernel_rfl)
    (of_decide_eq_true (by kernel_rfl)) (of_decide_eq_true (by kernel_rfl)) stops.symm rfl stopKnobs.symm (by kernel_rfl)
    (by kernel_rfl) (by kernel_rfl) (by kernel_rfl) (by kernel_rfl) (by kernel_rfl) (by kernel_rfl) (by kernel_rfl) (by kernel_rfl) (by kernel_rfl) rfl (by kernel_rfl) rfl rfl
    rfl rfl
    rfl (by kernel_rfl) (by kernel_rfl) (by kernel_rfl) (by decide) (by kernel_rfl) fnReadSszIs_row_tie
    (OpenClaim.moreEntering_of (by kernel_rfl) (by kernel_rfl) (by kernel_rfl) (by kernel_rfl) (by kernel_rfl) (by kernel_rfl) (by kernel_rfl) (by kernel_rfl) (by kernel_rfl) (by kernel_rfl))
    ⟨_, WideRow.started_initial, quiet _⟩
    (fun os started _ H enc _ => lifted os started H enc)
#print axioms holds
end Go.Proofs.YtpmhkmcikjbncaaFmt.fnReadSszIs
