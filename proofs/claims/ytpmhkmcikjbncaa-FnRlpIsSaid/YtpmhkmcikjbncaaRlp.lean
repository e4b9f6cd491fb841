/-
  Contracts of the RLP encoder: the sink's Write, EncodeRLP through it, the thin package's Rlp, and the reference's.
-/
import Derived.Test.YtpmhkmcikjbncaaPut
namespace Go.Proofs.Ytpmhkmcikjbncaa
open Go.RowKit
set_option linter.unusedVariables false
set_option linter.unusedSimpArgs false
set_option maxRecDepth 100000
theorem SlB.any {w : World} {v : Value} {l : List UInt8} (h : SlB w v l) : ∃ A cap, v = .slice A l.length cap ∧ l.length ≤ cap ∧ SlB w (.slice A l.length cap) l := by
  have h2 := h
  obtain ⟨A, cap, rfl, hc, _⟩ := h
  exact ⟨A, cap, rfl, hc, h2⟩
set_option maxHeartbeats 1000000 in
theorem sink_any (s : Nat) (u : Value) (l : List UInt8) (w : World) (hs : w.cell? ⟨s, 0, none⟩ = some (.slice none 0 0)) (hf : w.frozen? ⟨s, 0, none⟩ = false) (hu : SlB w u l) (hl : l.length ≤ 4294967296) :
    Calls Try.prog 118 #[.pointer (some ⟨s, 0, none⟩), u] w fun e w' => e = .returned (.tuple #[.int .i64 (l.length : Int), .nilIface]) ∧ ∃ v, w'.cell? ⟨s, 0, none⟩ = some v ∧ SlB w' v l ∧ Below s w w' ∧ ∀ c p u, c ≠ s → w.cell? ⟨c, p, none⟩ = some u → w'.cell? ⟨c, p, none⟩ = some u := by
  obtain ⟨i0, hi, hz0, hz1, hz2⟩ := info_parts Try.infoByte
  have hlt := World.block_lt_of_cell? _ _ hs
  obtain ⟨A, cap, rfl, hcap, hu⟩ := hu.any
  go_enter Try.func118, Try.ntmps118
  go_wp2_with (at_builtin; refine wpList_append_slb _ rfl _ _ 25 rfl w.heap.size 5 i0 Try.underlying25 hi hz0 hz1 hz2 (.slice none 0 0) 0 [] rfl (World.ownsRow_nil _ _ _ _) _ l rfl hu (by omega) (Nat.le_refl _) ?_; intro v1 w1 hown hgrow; have hc1 := hgrow.cell hs (by simp [Value.ownBlock]); have hf1 := (World.frozen?_of_block (a := ⟨s, 0, none⟩) (hgrow.block s hlt (by simp [Value.ownBlock]))).trans hf; have hb1 : Below w.heap.size w w1 := (bel_refl w).grown hgrow (Nat.le_refl _) (by simp [Value.ownBlock]); obtain ⟨A1, cap1, rfl, hc2, _⟩ := (SlB.of_own (base := w.heap.size) (e := 5) (l := l) (by simpa using hown)).any; have HO := Lib.hid hown; clear hown hgrow)
  go_ret2
  refine ⟨rfl, .slice A1 l.length cap1, by simp [go_sem, hc1], ?_, (hb1.mono (Nat.le_of_lt hlt)).setCell (p := ⟨s, 0, none⟩) (Nat.le_refl _) _, fun c p u hc hu => by rw [World.cell?_setCell_other _ _ _ _ (by intro e; injection e with e; exact hc e.symm)]; exact bel_cell hb1 hu⟩
  have h := HO.out
  have hne : (Value.slice A1 l.length cap1).ownBlock ≠ some s := fun e => by have := (h.lt s e).1; have : w.heap.size ≤ s := this; omega
  have h2 : (w1.setCell ⟨s, 0, none⟩ (.slice A1 l.length cap1)).ownsRow w.heap.size 5 1 (.slice A1 l.length cap1) (0 + l.length) ([] ++ Lib.byteCells l) := h.kept (row := some s) ⟨rfl, rfl, rfl, by simp [World.setCell], fun k hk hne => Below.heap_setCell _ _ _ _ (fun e => hne (by rw [e]))⟩ (.inr hne)
  exact SlB.of_own (base := w.heap.size) (e := 5) (by simpa using h2)
theorem rlp_head (n : Nat) (w : World) (B : Nat) (d : Int) (hd : d = ((UInt8.ofNat (128 + n)).toNat : Int)) (hB : B ≤ w.heap.size) : (w.alloc (.cells #[.int .u8 d] 5)).ownsRow B 5 1 (.slice (some ⟨w.heap.size, 0, none⟩) 1 1) 1 (Lib.byteCells [UInt8.ofNat (128 + n)]) := by
  subst hd
  exact ⟨rfl, .inr ⟨w.heap.size, 1, _, rfl, hB, heap_alloc_new w _, Nat.le_refl _, by unfold maxLen; omega, rfl, rfl⟩⟩
theorem rlp_d (n : Nat) (h : n ≤ 32) : (UInt8.ofNat (128 + n)).toNat = 128 + n := by rw [UInt8.toNat_ofNat']; omega
theorem own_head {B n N m : Nat} {w : World} {e : TypeId} {v : Value} (h : w.ownsRow B e 1 v (1 + (Lib.beBytes n N).length) (Lib.byteCells [UInt8.ofNat (128 + m)] ++ Lib.byteCells (Lib.beBytes n N))) : SlB w v (UInt8.ofNat (128 + m) :: Lib.beBytes n N) := by
  refine SlB.of_own (base := B) (e := e) ?_
  rw [show UInt8.ofNat (128 + m) :: Lib.beBytes n N = [UInt8.ofNat (128 + m)] ++ Lib.beBytes n N from rfl, List.length_append, Lib.byteCells_append]
  exact h
/-- What RLP says of a number. -/
def rlp (x : N4) : List UInt8 := if x.nb = 1 ∧ (byteAt x.toNat 0).toNat < 128 then Lib.beBytes 1 x.toNat else UInt8.ofNat (128 + x.nb) :: Lib.beBytes x.nb x.toNat
set_option maxHeartbeats 1000000 in
theorem specRlp_any (x : N4) (w : World) : Calls Try.prog 27 #[x.v] w (RetSlB (rlp x) w) := by
  obtain ⟨i0, hi, hz0, hz1, hz2⟩ := info_parts Try.infoByte
  have hnb := nb_le x
  by_cases h1 : x.nb = 1
  · have hh : (Lib.beBytes 1 x.toNat)[0]? = some (byteAt x.toNat 0) := be_head 0 _
    by_cases h2 : (byteAt x.toNat 0).toNat < 128
    · have e : Hid (Lib.beBytes 1 x.toNat = rlp x) := by show _ = _; unfold rlp; rw [if_pos ⟨h1, h2⟩]
      have d2 : decide (((byteAt x.toNat 0).toNat : Int) < 128) = true := decide_eq_true (by omega)
      go_enter Try.func27, Try.ntmps27
      go_wp2_with (go_at_call 12; refine (short_any x _).mono ?_; rintro e1 w1 ⟨v1, rfl, s1, hb1⟩; rw [h1] at s1; obtain ⟨A1, cap1, rfl, hcap1, s1⟩ := s1.parts; obtain ⟨g, o, rfl, hc⟩ := s1.first hh; have S1 := Lib.hid s1; clear s1)
      go_ret
      have h := S1.out
      rw [e.out] at h
      exact ⟨_, rfl, h, bel_trans (bel_alloc (bel_refl w) _) hb1⟩
    · have e : Hid (UInt8.ofNat (128 + 1) :: Lib.beBytes 1 x.toNat = rlp x) := by show _ = _; unfold rlp; rw [if_neg (fun h => h2 h.2), h1]
      have d2 : decide (((byteAt x.toNat 0).toNat : Int) < 128) = false := decide_eq_false (by omega)
      go_enter Try.func27, Try.ntmps27
      go_wp2_with (first
        | (go_at_call 12; refine (short_any x _).mono ?_; rintro e1 w1 ⟨v1, rfl, s1, hb1⟩; rw [h1] at s1; obtain ⟨A1, cap1, rfl, hcap1, s1⟩ := s1.parts; obtain ⟨g, o, rfl, hc⟩ := s1.first hh; have S1 := Lib.hid s1; have HB := Lib.hid hb1; clear s1 hb1)
        | (at_builtin; refine wpList_append_slb _ rfl _ _ 25 rfl (w.heap.size + 1) 5 i0 Try.underlying25 hi hz0 hz1 hz2 _ _ _ rfl (rlp_head 1 w1 (w.heap.size + 1) _ (by rw [rlp_d _ (by omega)]; first | rfl | omega) (by have := HB.out.size; simpa using this)) _ (Lib.beBytes 1 x.toNat) rfl (S1.out.alloc _) (by rw [be_len]; omega) (by have := HB.out.size; simp at this ⊢; omega) ?_; intro v3 w3 hown3 hgrow3; have s3 := own_head hown3; have hb3 : Below w.heap.size w w3 := (bel_trans (bel_alloc (bel_refl w) _) (bel_alloc HB.out _)).grown hgrow3 (by have := HB.out.size; simp at this ⊢; omega) (fun g' hg' => by have e9 : w1.heap.size = g' := Option.some.inj hg'; have := HB.out.size; simp at this; omega); have S3 := Lib.hid s3; clear hown3 hgrow3 s3))
      go_ret
      have h := S3.out
      rw [e.out] at h
      exact ⟨_, rfl, h, hb3⟩
  · have e : Hid (UInt8.ofNat (128 + x.nb) :: Lib.beBytes x.nb x.toNat = rlp x) := by show _ = _; unfold rlp; rw [if_neg (fun h => h1 h.1)]
    have d1 : (((x.nb : Nat) : Int) == 1) = false := by simp; omega
    clear h1
    go_enter Try.func27, Try.ntmps27
    go_wp2_with (first
      | (go_at_call 12; refine (short_any x _).mono ?_; rintro e1 w1 ⟨v1, rfl, s1, hb1⟩; skip; obtain ⟨A1, cap1, rfl, hcap1, s1⟩ := s1.parts;  have S1 := Lib.hid s1; have HB := Lib.hid hb1; clear s1 hb1)
      | (at_builtin; refine wpList_append_slb _ rfl _ _ 25 rfl (w.heap.size + 1) 5 i0 Try.underlying25 hi hz0 hz1 hz2 _ _ _ rfl (rlp_head x.nb w1 (w.heap.size + 1) _ (by rw [rlp_d _ (by omega)]; first | rfl | omega) (by have := HB.out.size; simpa using this)) _ (Lib.beBytes x.nb x.toNat) rfl (S1.out.alloc _) (by rw [be_len]; omega) (by have := HB.out.size; simp at this ⊢; omega) ?_; intro v3 w3 hown3 hgrow3; have s3 := own_head hown3; have hb3 : Below w.heap.size w w3 := (bel_trans (bel_alloc (bel_refl w) _) (bel_alloc HB.out _)).grown hgrow3 (by have := HB.out.size; simp at this ⊢; omega) (fun g' hg' => by have e9 : w1.heap.size = g' := Option.some.inj hg'; have := HB.out.size; simp at this; omega); have S3 := Lib.hid s3; clear hown3 hgrow3 s3))
    go_ret
    have h := S3.out
    rw [e.out] at h
    exact ⟨_, rfl, h, hb3⟩
theorem meth_write (a : Addr) (w : World) : (method 209 66 (.pointer (some a)) "Write").run Try.prog w = .ok (118, .pointer (some a)) w := by kernel_rfl
theorem nil_write (a : Addr) (w : World) : (nilAhead 209 66 (.pointer (some a)) "Write").run Try.prog w = .ok (some false) w := by kernel_rfl
theorem cell?_alloc' {w : World} {g o : Nat} {v : Value} {ob : Obj} (h : w.cell? ⟨g, o, none⟩ = some v) : (w.alloc ob).cell? ⟨g, o, none⟩ = some v := bel_cell (bel_alloc (bel_refl w) ob) h
theorem frozen?_alloc' {w : World} {g o : Nat} {v : Value} {ob : Obj} (h : w.cell? ⟨g, o, none⟩ = some v) (hf : w.frozen? ⟨g, o, none⟩ = false) : (w.alloc ob).frozen? ⟨g, o, none⟩ = false :=
  ((bel_alloc (bel_refl w) ob).frozen (p := ⟨g, o, none⟩) (World.block_lt_of_cell? _ _ h)).trans hf
set_option maxHeartbeats 1000000 in
theorem encode_zero (b o : Nat) (x : N4) (s : Nat) (w : World) (hx : At4 w b o x) (h0 : x.bits = 0) (hs : w.cell? ⟨s, 0, none⟩ = some (.slice none 0 0)) (hf : w.frozen? ⟨s, 0, none⟩ = false) :
    Calls Try.prog 47 #[.pointer (some ⟨b, o, none⟩), .iface 66 (.pointer (some ⟨s, 0, none⟩))] w fun e w' => e = .returned .nilIface ∧ ∃ v, w'.cell? ⟨s, 0, none⟩ = some v ∧ SlB w' v (rlp x) ∧ Below s w w' := by
  have hm := meth_write
  have E : Hid (rlp x = [UInt8.ofNat 128]) := by
    have hn : x.nb = 0 := by unfold N4.nb; omega
    show _ = _
    unfold rlp
    rw [hn, if_neg (by omega)]
    rfl
  have hlt := World.block_lt_of_cell? _ _ hs
  go_enter Try.func47, Try.ntmps47
  go_wp2_with fail
  refine (bitLen_any b o x _ hx).mono ?_
  rintro e1 w' ⟨rfl, hw⟩
  subst hw
  rw [h0]
  have hu : SlB (w'.alloc (.cells #[.int .u8 128] 5)) (.slice (some ⟨w'.heap.size, 0, none⟩) 1 1) [UInt8.ofNat 128] := SlB.of_own (rlp_head 0 w' 0 128 rfl (Nat.zero_le _))
  go_wp2_with (go_at_call 118; refine (sink_any s _ [UInt8.ofNat 128] _ (cell?_alloc' hs) (frozen?_alloc' hs hf) hu (by simp)).mono ?_; rintro e2 w2 ⟨rfl, v, hv, hs2, hb2, hk2⟩)
  go_ret
  exact ⟨rfl, v, hv, by rw [E.out]; exact hs2, (Below.refl s w').alloc (Nat.le_of_lt hlt) _ |>.trans hb2⟩
theorem own_one (w : World) (d : Int) (c : UInt8) (hd : d = (c.toNat : Int)) : SlB (w.alloc (.cells #[.int .u8 d] 5)) (.slice (some ⟨w.heap.size, 0, none⟩) 1 1) [c] := by
  subst hd
  exact SlB.of_own (base := 0) (e := 5) ⟨rfl, .inr ⟨w.heap.size, 1, _, rfl, Nat.zero_le _, heap_alloc_new w _, Nat.le_refl _, by unfold maxLen; omega, rfl, rfl⟩⟩
set_option maxHeartbeats 2000000 in
theorem encode_small (b o : Nat) (x : N4) (s : Nat) (w : World) (hx : At4 w b o x) (h0 : 1 ≤ x.bits) (h7 : x.bits ≤ 7) (hbs : b ≠ s) (hs : w.cell? ⟨s, 0, none⟩ = some (.slice none 0 0)) (hf : w.frozen? ⟨s, 0, none⟩ = false) :
    Calls Try.prog 47 #[.pointer (some ⟨b, o, none⟩), .iface 66 (.pointer (some ⟨s, 0, none⟩))] w fun e w' => e = .returned .nilIface ∧ ∃ v, w'.cell? ⟨s, 0, none⟩ = some v ∧ SlB w' v (rlp x) ∧ Below s w w' := by
  have hm := meth_write
  have hn := nil_write
  have hmf : ∀ (fn : Fn) (first cap : Array Value) (w : World), (Instr.makeFunc fn first cap).run Try.prog w = .ok (.func fn first cap) w := fun _ _ _ _ => rfl
  have hlow : x.toNat < 128 := Nat.lt_of_lt_of_le (bits_spec x).1 (Nat.pow_le_pow_right (by decide) h7)
  have hby : (byteAt x.toNat 0).toNat = x.toNat := by rw [byteAt_toNat]; omega
  have E : Hid (rlp x = [byteAt x.toNat 0]) := by
    have hn : x.nb = 1 := by unfold N4.nb; omega
    show _ = _
    unfold rlp
    rw [hn, if_pos ⟨rfl, by omega⟩]
    exact List.ext_getElem? fun i => by rw [be_get]; match i with | 0 => rfl | i + 1 => simp
  have ha : x.a.toNat = x.toNat := by have := x.a.isLt; unfold N4.toNat at *; omega
  have HD : Hid (U x.a % 256 = ((byteAt x.toNat 0).toNat : Int)) := by show _ = _; unfold U; omega
  have hlt := World.block_lt_of_cell? _ _ hs
  have t0 : (((x.bits : Nat) : Int) == 0) = false := by simp; omega
  have t7 : decide (((x.bits : Nat) : Int) ≤ 7) = true := decide_eq_true (by omega)
  have hw := hx.c0
  clear h0 h7 hlow hby ha
  go_enter Try.func47, Try.ntmps47
  go_wp2_with fail
  refine (bitLen_any b o x _ hx).mono ?_
  rintro e1 w' ⟨rfl, hw'⟩
  subst hw'
  go_wp2
  refine wp_region_noPanic ?_
  refine wp_region_held_drew (S := (fun w' => w'.cell? ⟨b, o, none⟩ = some (V x.a))) (by kernel_rfl) (by exact hw) (fun hHeld => ?_)
  refine hm_take (i := 0) (v := ?_) rfl rfl (by kernel_rfl) (by kernel_rfl) (by kernel_rfl) (fun _ _ _ h => h) rfl ?_ (by assumption) ?_
  rotate_left
  · (intro w hSw; (try dsimp only at hSw); go_simp; try with_reducible rfl)
  try simp only [Act.put, List.setIfInBounds_toArray, List.set_cons_zero, List.set_cons_succ]
  refine hm_take (i := 1) (v := ?_) rfl rfl (by kernel_rfl) (by kernel_rfl) (by kernel_rfl) (fun _ _ _ h => h) rfl ?_ (by assumption) ?_
  rotate_left
  · (intro w hSw; (try dsimp only at hSw); go_simp; try with_reducible rfl)
  try simp only [Act.put, List.setIfInBounds_toArray, List.set_cons_zero, List.set_cons_succ]
  refine hm_take (i := 2) (v := ?_) rfl rfl (by kernel_rfl) (by kernel_rfl) (by kernel_rfl) (fun _ _ _ h => h) rfl ?_ (by assumption) ?_
  rotate_left
  · (intro w hSw; (try dsimp only at hSw); go_simp; try with_reducible rfl)
  try simp only [Act.put, List.setIfInBounds_toArray, List.set_cons_zero, List.set_cons_succ]
  refine hm_take (i := 3) (v := ?_) rfl rfl (by kernel_rfl) (by kernel_rfl) (by kernel_rfl) (fun _ _ _ h => h) rfl ?_ (by assumption) ?_
  rotate_left
  · (intro w hSw; (try dsimp only at hSw); go_simp; try with_reducible rfl)
  try simp only [Act.put, List.setIfInBounds_toArray, List.set_cons_zero, List.set_cons_succ]
  refine hm_take (i := 4) (v := ?_) rfl rfl (by kernel_rfl) (by kernel_rfl) (by kernel_rfl) (fun _ _ _ h => h) rfl ?_ (by assumption) ?_
  rotate_left
  · (intro w hSw; (try dsimp only at hSw); go_simp; try with_reducible rfl)
  try simp only [Act.put, List.setIfInBounds_toArray, List.set_cons_zero, List.set_cons_succ]
  refine hm_take (i := 5) (v := ?_) rfl rfl (by kernel_rfl) (by kernel_rfl) (by kernel_rfl) (fun _ _ _ h => h) rfl ?_ (by assumption) ?_
  rotate_left
  · (intro w hSw; (try dsimp only at hSw); go_simp; try with_reducible rfl)
  try simp only [Act.put, List.setIfInBounds_toArray, List.set_cons_zero, List.set_cons_succ]
  refine hm_take (i := 7) (v := ?_) rfl rfl (by kernel_rfl) (by kernel_rfl) (by kernel_rfl) (fun _ _ _ h => h) rfl ?_ (by assumption) ?_
  rotate_left
  · (intro w hSw; (try dsimp only at hSw); go_simp; try with_reducible rfl)
  try simp only [Act.put, List.setIfInBounds_toArray, List.set_cons_zero, List.set_cons_succ]
  refine hm_take (i := 8) (v := ?_) rfl rfl (by kernel_rfl) (by kernel_rfl) (by kernel_rfl) (fun _ _ _ h => h) rfl ?_ (by assumption) ?_
  rotate_left
  · (intro w hSw; (try dsimp only at hSw); go_simp; try with_reducible rfl)
  try simp only [Act.put, List.setIfInBounds_toArray, List.set_cons_zero, List.set_cons_succ]
  refine hm_take (i := 9) (v := ?_) rfl rfl (by kernel_rfl) (by kernel_rfl) (by kernel_rfl) (fun _ _ _ h => h) rfl ?_ (by assumption) ?_
  rotate_left
  · (intro w hSw; (try dsimp only at hSw); go_simp; try with_reducible rfl)
  try simp only [Act.put, List.setIfInBounds_toArray, List.set_cons_zero, List.set_cons_succ]
  refine hm_call (i := 6) rfl (by kernel_rfl) rfl (fun K hK => ?_)
  (go_simp)
  refine hK.out _ _ (by (try dsimp only); first | assumption | exact cell?_alloc' (w := w'.drew) hw | exact hk2 _ _ _ hbs (cell?_alloc' (w := w'.drew) hw)) (fun hHeld => ?_)
  clear hK K
  try simp only [Act.put, List.setIfInBounds_toArray, List.set_cons_zero, List.set_cons_succ]
  refine hm_call (i := 10) rfl (by kernel_rfl) rfl (fun K hK => ?_)
  go_simp
  (go_at_call 118; refine (sink_any s _ [byteAt x.toNat 0] _ (cell?_alloc' (w := w'.drew) hs) (frozen?_alloc' (w := w'.drew) hs hf) (own_one w'.drew _ _ HD.out) (by simp)).mono ?_; rintro e2 w2 ⟨rfl, v, hv, hs2, hb2, hk2⟩)
  (try go_wp2_with fail)
  refine hK.out _ _ (by (try dsimp only); first | assumption | exact cell?_alloc' (w := w'.drew) hw | exact hk2 _ _ _ hbs (cell?_alloc' (w := w'.drew) hw)) (fun hHeld => ?_)
  clear hK K
  try simp only [Act.put, List.setIfInBounds_toArray, List.set_cons_zero, List.set_cons_succ]
  refine hm_take (i := 11) (v := ?_) rfl rfl (by kernel_rfl) (by kernel_rfl) (by kernel_rfl) (fun _ _ _ h => h) rfl ?_ (by assumption) ?_
  rotate_left
  · (intro w hSw; (try dsimp only at hSw); go_simp; try with_reducible rfl)
  try simp only [Act.put, List.setIfInBounds_toArray, List.set_cons_zero, List.set_cons_succ]
  refine hm_take (i := 12) (v := ?_) rfl rfl (by kernel_rfl) (by kernel_rfl) (by kernel_rfl) (fun _ _ _ h => h) rfl ?_ (by assumption) ?_
  rotate_left
  · (intro w hSw; (try dsimp only at hSw); go_simp; try with_reducible rfl)
  try simp only [Act.put, List.setIfInBounds_toArray, List.set_cons_zero, List.set_cons_succ]
  refine hm_take (i := 13) (v := ?_) rfl rfl (by kernel_rfl) (by kernel_rfl) (by kernel_rfl) (fun _ _ _ h => h) rfl ?_ (by assumption) ?_
  rotate_left
  · (intro w hSw; (try dsimp only at hSw); go_simp; try with_reducible rfl)
  try simp only [Act.put, List.setIfInBounds_toArray, List.set_cons_zero, List.set_cons_succ]
  refine hm_take (i := 14) (v := ?_) rfl rfl (by kernel_rfl) (by kernel_rfl) (by kernel_rfl) (fun _ _ _ h => h) rfl ?_ (by assumption) ?_
  rotate_left
  · (intro w hSw; (try dsimp only at hSw); go_simp; try with_reducible rfl)
  try simp only [Act.put, List.setIfInBounds_toArray, List.set_cons_zero, List.set_cons_succ]
  refine hm_take (i := 15) (v := ?_) rfl rfl (by kernel_rfl) (by kernel_rfl) (by kernel_rfl) (fun _ _ _ h => h) rfl ?_ (by assumption) ?_
  rotate_left
  · (intro w hSw; (try dsimp only at hSw); go_simp; try with_reducible rfl)
  try simp only [Act.put, List.setIfInBounds_toArray, List.set_cons_zero, List.set_cons_succ]
  refine wpAnyH_done (by kernel_rfl) ?_ _
  refine NoPanic.normal ?_
  go_wp2
  go_ret
  exact ⟨rfl, v, hv, by rw [E.out]; exact hs2, ((Below.refl s w').drew.alloc (Nat.le_of_lt hlt) _).trans hb2⟩
theorem slice33 (g k : Nat) (hk : k < 33) (w : World) : (Instr.sliceAt 88 (.pointer (some ⟨g, 0, none⟩)) (some (.int .u8 (k : Int))) none none).run Try.prog w = .ok (.slice (some ⟨g, k, none⟩) (33 - k) (33 - k)) w := by
  have hl : Try.prog.arrayLen 88 = 33 := by kernel_rfl
  have hs : (sizeOf (Try.prog.elem 88)).run Try.prog w = .ok 1 w := by kernel_rfl
  rw [run_sliceAt_array_l w _ ⟨g, 0, none⟩ (by kernel_rfl) .u8 _ (by omega) (by rw [hl]; omega), hl, hs]
  simp only [Result.andThen_ok, slicedAt, Int.toNat_natCast]
  rw [if_neg (by omega)]
  simp [Addr.add]
  exact fun h => h.symm
theorem Fill.start33 (w : World) (b o : Nat) (x : N4) (hx : At4 w b o x) (t : TypeId) : Fill w b o x w.heap.size w.heap.size 33 [0] (w.alloc (.cells #[Value.int .u8 0, Value.int .u8 0, Value.int .u8 0, Value.int .u8 0, Value.int .u8 0, Value.int .u8 0, Value.int .u8 0, Value.int .u8 0, Value.int .u8 0, Value.int .u8 0, Value.int .u8 0, Value.int .u8 0, Value.int .u8 0, Value.int .u8 0, Value.int .u8 0, Value.int .u8 0, Value.int .u8 0, Value.int .u8 0, Value.int .u8 0, Value.int .u8 0, Value.int .u8 0, Value.int .u8 0, Value.int .u8 0, Value.int .u8 0, Value.int .u8 0, Value.int .u8 0, Value.int .u8 0, Value.int .u8 0, Value.int .u8 0, Value.int .u8 0, Value.int .u8 0, Value.int .u8 0, Value.int .u8 0] t)) := by
  refine ⟨hx.alloc _, there_new w t _ 33 (by simp), there_new w t _ 33 (by simp), fun j v hv => ?_, bel_alloc (bel_refl w) _⟩
  match j with
  | 0 => simp [Lib.byteCells] at hv; subst hv; simp [go_sem]
  | j + 1 => simp [Lib.byteCells] at hv
set_option maxHeartbeats 4000000 in
theorem encode_large (b o : Nat) (x : N4) (s : Nat) (w : World) (hx : At4 w b o x) (h8 : 8 ≤ x.bits) (hbs : b ≠ s) (hs : w.cell? ⟨s, 0, none⟩ = some (.slice none 0 0)) (hf : w.frozen? ⟨s, 0, none⟩ = false) :
    Calls Try.prog 47 #[.pointer (some ⟨b, o, none⟩), .iface 66 (.pointer (some ⟨s, 0, none⟩))] w fun e w' => e = .returned .nilIface ∧ ∃ v, w'.cell? ⟨s, 0, none⟩ = some v ∧ SlB w' v (rlp x) ∧ Below s w w' := by
  have hm := meth_write
  have hn := nil_write
  have hmf : ∀ (fn : Fn) (first cap : Array Value) (w : World), (Instr.makeFunc fn first cap).run Try.prog w = .ok (.func fn first cap) w := fun _ _ _ _ => rfl
  have hnb := nb_le x
  have hb := hx.lt
  have hbits := (bits_spec x).2.2
  have E : Hid (rlp x = UInt8.ofNat (128 + x.nb) :: Lib.beBytes x.nb x.toNat) := by
    have h2p : 2 ^ 7 ≤ 2 ^ (x.bits - 1) := Nat.pow_le_pow_right (by decide) (by omega)
    have hge : 128 ≤ x.toNat := Nat.le_trans h2p ((bits_spec x).2.1 (by intro e; have := nb_zero x e; unfold N4.nb at this; omega)).2
    show _ = _
    unfold rlp
    rw [if_neg]
    rintro ⟨h1, h2⟩
    have h3 := nb_lt x
    rw [h1] at h3
    rw [byteAt_toNat] at h2
    omega
  have hlt := World.block_lt_of_cell? _ _ hs
  obtain ⟨k, hk0⟩ : ∃ k, k + x.nb = 32 := ⟨32 - x.nb, by omega⟩
  have hnb1 : 1 ≤ x.nb := by unfold N4.nb; omega
  have t0 : (((x.bits : Nat) : Int) == 0) = false := by simp; omega
  have t7 : decide (((x.bits : Nat) : Int) ≤ 7) = false := decide_eq_false (by omega)
  have q0 : (((x.bits : Nat) : Int) + 7) / 8 = ((x.nb : Nat) : Int) := by unfold N4.nb; omega
  have q1 : IntKind.u8.wrap ((x.nb : Nat) : Int) = ((x.nb : Nat) : Int) := by simp [IntKind.wrap, IntKind.bits, IntKind.signed]; omega
  have q2 : IntKind.u8.wrap (32 - ((x.nb : Nat) : Int)) = ((k : Nat) : Int) := by simp [IntKind.wrap, IntKind.bits, IntKind.signed]; omega
  have HQ3 : Hid (((UInt8.ofNat (128 + x.nb)).toNat : Int) = 128 + ((x.nb : Nat) : Int)) := by show _ = _; rw [rlp_d _ hnb]; omega
  have hk33 : k < 33 := by omega
  have hsl := slice33 w.heap.size k hk33
  have HK := Lib.hid hk0
  have H := Fill.start33 w b o x hx 88
  have hg : w.heap.size ≤ w.heap.size := Nat.le_refl _
  clear hk0
  go_enter Try.func47, Try.ntmps47
  go_wp2_with fail
  refine (bitLen_any b o x _ hx).mono ?_
  rintro e1 w' ⟨rfl, hw'⟩
  subst hw'
  go_wp2
  have hw := H.at4.c3
  go_wp2
  refine wp_region_noPanic ?_
  refine wp_region_held_drew (S := (fun w' => w'.cell? ⟨b, o + 3, none⟩ = some (V x.d))) (by kernel_rfl) (by exact hw) (fun hHeld => ?_)
  refine hm_take (i := 0) (v := ?_) rfl rfl (by kernel_rfl) (by kernel_rfl) (by kernel_rfl) (fun _ _ _ h => h) rfl ?_ (by assumption) ?_
  rotate_left
  · (intro w hSw; (try dsimp only at hSw); go_simp; try with_reducible rfl)
  try simp only [Act.put, List.setIfInBounds_toArray, List.set_cons_zero, List.set_cons_succ]
  refine hm_take (i := 1) (v := ?_) rfl rfl (by kernel_rfl) (by kernel_rfl) (by kernel_rfl) (fun _ _ _ h => h) rfl ?_ (by assumption) ?_
  rotate_left
  · (intro w hSw; (try dsimp only at hSw); go_simp; try with_reducible rfl)
  try simp only [Act.put, List.setIfInBounds_toArray, List.set_cons_zero, List.set_cons_succ]
  refine hm_take (i := 2) (v := ?_) rfl rfl (by kernel_rfl) (by kernel_rfl) (by kernel_rfl) (fun _ _ _ h => h) rfl ?_ (by assumption) ?_
  rotate_left
  · (intro w hSw; (try dsimp only at hSw); go_simp; try with_reducible rfl)
  try simp only [Act.put, List.setIfInBounds_toArray, List.set_cons_zero, List.set_cons_succ]
  refine hm_take (i := 3) (v := ?_) rfl rfl (by kernel_rfl) (by kernel_rfl) (by kernel_rfl) (fun _ _ _ h => h) rfl ?_ (by assumption) ?_
  rotate_left
  · (intro w hSw; (try dsimp only at hSw); go_simp; try with_reducible rfl)
  try simp only [Act.put, List.setIfInBounds_toArray, List.set_cons_zero, List.set_cons_succ]
  refine hm_take (i := 4) (v := ?_) rfl rfl (by kernel_rfl) (by kernel_rfl) (by kernel_rfl) (fun _ _ _ h => h) rfl ?_ (by assumption) ?_
  rotate_left
  · (intro w hSw; (try dsimp only at hSw); go_simp; try with_reducible rfl)
  try simp only [Act.put, List.setIfInBounds_toArray, List.set_cons_zero, List.set_cons_succ]
  refine hm_take (i := 5) (v := ?_) rfl rfl (by kernel_rfl) (by kernel_rfl) (by kernel_rfl) (fun _ _ _ h => h) rfl ?_ (by assumption) ?_
  rotate_left
  · (intro w hSw; (try dsimp only at hSw); go_simp; try with_reducible rfl)
  try simp only [Act.put, List.setIfInBounds_toArray, List.set_cons_zero, List.set_cons_succ]
  refine hm_call (i := 6) rfl (by kernel_rfl) rfl (fun K hK => ?_)
  go_simp
  (go_at_call 56; refine (putU64_any _ 1 _ _ x.d _ (by omega) ((World.there_drew _ _ _ _).2 (there_part H.here (by omega)))).mono ?_; rintro e w' ⟨rfl, rfl⟩)
  (try go_wp2_with fail)
  refine hK.out _ _ (by (try dsimp only); exact (H.put hb hg (Lib.beBytes 8 x.d.toNat) (by simp [be_len]) _).at4.c3) (fun hHeld => ?_)
  clear hK K
  try simp only [Act.put, List.setIfInBounds_toArray, List.set_cons_zero, List.set_cons_succ]
  refine wpAnyH_done (by kernel_rfl) ?_ _
  refine NoPanic.normal ?_
  have H2 := H.put hb hg (Lib.beBytes 8 x.d.toNat) (by simp [be_len]) (.cells #[] 77)
  clear H hw hHeld
  simp only [List.length_append, List.length_cons, be_len, List.length_nil, Nat.reduceAdd] at H2
  revert H2
  generalize World.setCells _ _ _ _ = W1
  intro H
  have hw := H.at4.c2
  go_wp2
  refine wp_region_noPanic ?_
  refine wp_region_held_drew (S := (fun w' => w'.cell? ⟨b, o + 2, none⟩ = some (V x.c))) (by kernel_rfl) (by exact hw) (fun hHeld => ?_)
  refine hm_take (i := 0) (v := ?_) rfl rfl (by kernel_rfl) (by kernel_rfl) (by kernel_rfl) (fun _ _ _ h => h) rfl ?_ (by assumption) ?_
  rotate_left
  · (intro w hSw; (try dsimp only at hSw); go_simp; try with_reducible rfl)
  try simp only [Act.put, List.setIfInBounds_toArray, List.set_cons_zero, List.set_cons_succ]
  refine hm_take (i := 1) (v := ?_) rfl rfl (by kernel_rfl) (by kernel_rfl) (by kernel_rfl) (fun _ _ _ h => h) rfl ?_ (by assumption) ?_
  rotate_left
  · (intro w hSw; (try dsimp only at hSw); go_simp; try with_reducible rfl)
  try simp only [Act.put, List.setIfInBounds_toArray, List.set_cons_zero, List.set_cons_succ]
  refine hm_take (i := 2) (v := ?_) rfl rfl (by kernel_rfl) (by kernel_rfl) (by kernel_rfl) (fun _ _ _ h => h) rfl ?_ (by assumption) ?_
  rotate_left
  · (intro w hSw; (try dsimp only at hSw); go_simp; try with_reducible rfl)
  try simp only [Act.put, List.setIfInBounds_toArray, List.set_cons_zero, List.set_cons_succ]
  refine hm_take (i := 3) (v := ?_) rfl rfl (by kernel_rfl) (by kernel_rfl) (by kernel_rfl) (fun _ _ _ h => h) rfl ?_ (by assumption) ?_
  rotate_left
  · (intro w hSw; (try dsimp only at hSw); go_simp; try with_reducible rfl)
  try simp only [Act.put, List.setIfInBounds_toArray, List.set_cons_zero, List.set_cons_succ]
  refine hm_take (i := 4) (v := ?_) rfl rfl (by kernel_rfl) (by kernel_rfl) (by kernel_rfl) (fun _ _ _ h => h) rfl ?_ (by assumption) ?_
  rotate_left
  · (intro w hSw; (try dsimp only at hSw); go_simp; try with_reducible rfl)
  try simp only [Act.put, List.setIfInBounds_toArray, List.set_cons_zero, List.set_cons_succ]
  refine hm_take (i := 5) (v := ?_) rfl rfl (by kernel_rfl) (by kernel_rfl) (by kernel_rfl) (fun _ _ _ h => h) rfl ?_ (by assumption) ?_
  rotate_left
  · (intro w hSw; (try dsimp only at hSw); go_simp; try with_reducible rfl)
  try simp only [Act.put, List.setIfInBounds_toArray, List.set_cons_zero, List.set_cons_succ]
  refine hm_call (i := 6) rfl (by kernel_rfl) rfl (fun K hK => ?_)
  go_simp
  (go_at_call 56; refine (putU64_any _ 9 _ _ x.c _ (by omega) ((World.there_drew _ _ _ _).2 (there_part H.here (by omega)))).mono ?_; rintro e w' ⟨rfl, rfl⟩)
  (try go_wp2_with fail)
  refine hK.out _ _ (by (try dsimp only); exact (H.put hb hg (Lib.beBytes 8 x.c.toNat) (by simp [be_len]) _).at4.c2) (fun hHeld => ?_)
  clear hK K
  try simp only [Act.put, List.setIfInBounds_toArray, List.set_cons_zero, List.set_cons_succ]
  refine wpAnyH_done (by kernel_rfl) ?_ _
  refine NoPanic.normal ?_
  have H2 := H.put hb hg (Lib.beBytes 8 x.c.toNat) (by simp [be_len]) (.cells #[] 77)
  clear H hw hHeld
  simp only [List.length_append, List.length_cons, be_len, List.length_nil, Nat.reduceAdd] at H2
  revert H2
  generalize World.setCells _ _ _ _ = W1
  intro H
  have hw := H.at4.c1
  go_wp2
  refine wp_region_noPanic ?_
  refine wp_region_held_drew (S := (fun w' => w'.cell? ⟨b, o + 1, none⟩ = some (V x.b))) (by kernel_rfl) (by exact hw) (fun hHeld => ?_)
  refine hm_take (i := 0) (v := ?_) rfl rfl (by kernel_rfl) (by kernel_rfl) (by kernel_rfl) (fun _ _ _ h => h) rfl ?_ (by assumption) ?_
  rotate_left
  · (intro w hSw; (try dsimp only at hSw); go_simp; try with_reducible rfl)
  try simp only [Act.put, List.setIfInBounds_toArray, List.set_cons_zero, List.set_cons_succ]
  refine hm_take (i := 1) (v := ?_) rfl rfl (by kernel_rfl) (by kernel_rfl) (by kernel_rfl) (fun _ _ _ h => h) rfl ?_ (by assumption) ?_
  rotate_left
  · (intro w hSw; (try dsimp only at hSw); go_simp; try with_reducible rfl)
  try simp only [Act.put, List.setIfInBounds_toArray, List.set_cons_zero, List.set_cons_succ]
  refine hm_take (i := 2) (v := ?_) rfl rfl (by kernel_rfl) (by kernel_rfl) (by kernel_rfl) (fun _ _ _ h => h) rfl ?_ (by assumption) ?_
  rotate_left
  · (intro w hSw; (try dsimp only at hSw); go_simp; try with_reducible rfl)
  try simp only [Act.put, List.setIfInBounds_toArray, List.set_cons_zero, List.set_cons_succ]
  refine hm_take (i := 3) (v := ?_) rfl rfl (by kernel_rfl) (by kernel_rfl) (by kernel_rfl) (fun _ _ _ h => h) rfl ?_ (by assumption) ?_
  rotate_left
  · (intro w hSw; (try dsimp only at hSw); go_simp; try with_reducible rfl)
  try simp only [Act.put, List.setIfInBounds_toArray, List.set_cons_zero, List.set_cons_succ]
  refine hm_take (i := 4) (v := ?_) rfl rfl (by kernel_rfl) (by kernel_rfl) (by kernel_rfl) (fun _ _ _ h => h) rfl ?_ (by assumption) ?_
  rotate_left
  · (intro w hSw; (try dsimp only at hSw); go_simp; try with_reducible rfl)
  try simp only [Act.put, List.setIfInBounds_toArray, List.set_cons_zero, List.set_cons_succ]
  refine hm_take (i := 5) (v := ?_) rfl rfl (by kernel_rfl) (by kernel_rfl) (by kernel_rfl) (fun _ _ _ h => h) rfl ?_ (by assumption) ?_
  rotate_left
  · (intro w hSw; (try dsimp only at hSw); go_simp; try with_reducible rfl)
  try simp only [Act.put, List.setIfInBounds_toArray, List.set_cons_zero, List.set_cons_succ]
  refine hm_call (i := 6) rfl (by kernel_rfl) rfl (fun K hK => ?_)
  go_simp
  (go_at_call 56; refine (putU64_any _ 17 _ _ x.b _ (by omega) ((World.there_drew _ _ _ _).2 (there_part H.here (by omega)))).mono ?_; rintro e w' ⟨rfl, rfl⟩)
  (try go_wp2_with fail)
  refine hK.out _ _ (by (try dsimp only); exact (H.put hb hg (Lib.beBytes 8 x.b.toNat) (by simp [be_len]) _).at4.c1) (fun hHeld => ?_)
  clear hK K
  try simp only [Act.put, List.setIfInBounds_toArray, List.set_cons_zero, List.set_cons_succ]
  refine wpAnyH_done (by kernel_rfl) ?_ _
  refine NoPanic.normal ?_
  have H2 := H.put hb hg (Lib.beBytes 8 x.b.toNat) (by simp [be_len]) (.cells #[] 77)
  clear H hw hHeld
  simp only [List.length_append, List.length_cons, be_len, List.length_nil, Nat.reduceAdd] at H2
  revert H2
  generalize World.setCells _ _ _ _ = W1
  intro H
  have hw := H.at4.c0
  go_wp2
  refine wp_region_noPanic ?_
  refine wp_region_held_drew (S := (fun w' => w'.cell? ⟨b, o, none⟩ = some (V x.a))) (by kernel_rfl) (by exact hw) (fun hHeld => ?_)
  refine hm_take (i := 0) (v := ?_) rfl rfl (by kernel_rfl) (by kernel_rfl) (by kernel_rfl) (fun _ _ _ h => h) rfl ?_ (by assumption) ?_
  rotate_left
  · (intro w hSw; (try dsimp only at hSw); go_simp; try with_reducible rfl)
  try simp only [Act.put, List.setIfInBounds_toArray, List.set_cons_zero, List.set_cons_succ]
  refine hm_take (i := 1) (v := ?_) rfl rfl (by kernel_rfl) (by kernel_rfl) (by kernel_rfl) (fun _ _ _ h => h) rfl ?_ (by assumption) ?_
  rotate_left
  · (intro w hSw; (try dsimp only at hSw); go_simp; try with_reducible rfl)
  try simp only [Act.put, List.setIfInBounds_toArray, List.set_cons_zero, List.set_cons_succ]
  refine hm_take (i := 2) (v := ?_) rfl rfl (by kernel_rfl) (by kernel_rfl) (by kernel_rfl) (fun _ _ _ h => h) rfl ?_ (by assumption) ?_
  rotate_left
  · (intro w hSw; (try dsimp only at hSw); go_simp; try with_reducible rfl)
  try simp only [Act.put, List.setIfInBounds_toArray, List.set_cons_zero, List.set_cons_succ]
  refine hm_take (i := 3) (v := ?_) rfl rfl (by kernel_rfl) (by kernel_rfl) (by kernel_rfl) (fun _ _ _ h => h) rfl ?_ (by assumption) ?_
  rotate_left
  · (intro w hSw; (try dsimp only at hSw); go_simp; try with_reducible rfl)
  try simp only [Act.put, List.setIfInBounds_toArray, List.set_cons_zero, List.set_cons_succ]
  refine hm_take (i := 4) (v := ?_) rfl rfl (by kernel_rfl) (by kernel_rfl) (by kernel_rfl) (fun _ _ _ h => h) rfl ?_ (by assumption) ?_
  rotate_left
  · (intro w hSw; (try dsimp only at hSw); go_simp; try with_reducible rfl)
  try simp only [Act.put, List.setIfInBounds_toArray, List.set_cons_zero, List.set_cons_succ]
  refine hm_take (i := 5) (v := ?_) rfl rfl (by kernel_rfl) (by kernel_rfl) (by kernel_rfl) (fun _ _ _ h => h) rfl ?_ (by assumption) ?_
  rotate_left
  · (intro w hSw; (try dsimp only at hSw); go_simp; try with_reducible rfl)
  try simp only [Act.put, List.setIfInBounds_toArray, List.set_cons_zero, List.set_cons_succ]
  refine hm_call (i := 6) rfl (by kernel_rfl) rfl (fun K hK => ?_)
  go_simp
  (go_at_call 56; refine (putU64_any _ 25 _ _ x.a _ (by omega) ((World.there_drew _ _ _ _).2 (there_part H.here (by omega)))).mono ?_; rintro e w' ⟨rfl, rfl⟩)
  (try go_wp2_with fail)
  refine hK.out _ _ (by (try dsimp only); exact (H.put hb hg (Lib.beBytes 8 x.a.toNat) (by simp [be_len]) _).at4.c0) (fun hHeld => ?_)
  clear hK K
  try simp only [Act.put, List.setIfInBounds_toArray, List.set_cons_zero, List.set_cons_succ]
  refine wpAnyH_done (by kernel_rfl) ?_ _
  refine NoPanic.normal ?_
  have H2 := H.put hb hg (Lib.beBytes 8 x.a.toNat) (by simp [be_len]) (.cells #[] 77)
  clear H hw hHeld
  simp only [List.length_append, List.length_cons, be_len, List.length_nil, Nat.reduceAdd] at H2
  revert H2
  generalize World.setCells _ _ _ _ = W1
  intro H
  have hrow : W1.rangeAt w'.heap.size 0 (Lib.byteCells (0 :: Lib.beBytes 32 x.toNat)) := by
    have h := H.row
    have e := be32_words x
    simp only [List.append_assoc, List.cons_append, List.nil_append] at h e
    rwa [e] at h
  have hthere := H.here
  have hbel := H.bel
  clear H
  obtain ⟨uk, huk⟩ := bytes_at (l := 0 :: Lib.beBytes 32 x.toNat) (j := k) (by simp [be_len]; omega)
  have hck := hrow k _ huk
  have hfk := (hthere k hk33).2
  rw [Nat.zero_add] at hck hfk
  have hs1 := (hbel.cell (p := ⟨s, 0, none⟩) hlt).trans hs
  have hf1 := (hbel.frozen (p := ⟨s, 0, none⟩) hlt).trans hf
  have HROW := Lib.hid hrow
  clear hrow huk hthere
  go_wp2
  have HS : SlB (W1.setCell ⟨w'.heap.size, k, none⟩ (.int .u8 (128 + ((x.nb : Nat) : Int)))) (.slice (some ⟨w'.heap.size, k, none⟩) (33 - k) (33 - k)) (UInt8.ofNat (128 + x.nb) :: Lib.beBytes x.nb x.toNat) := by
    refine SlB.of_range (fun j v hj => ?_) (by simp [be_len]; have := HK.out; omega) (Nat.le_refl _)
    match j with
    | 0 =>
      have hj2 : v = .int .u8 (128 + ((x.nb : Nat) : Int)) := by
        have h1 : some (Value.int .u8 (((UInt8.ofNat (128 + x.nb)).toNat : Nat) : Int)) = some v := hj
        injection h1 with h1
        rw [← h1, HQ3.out]
      subst hj2
      simp [go_sem, hck]
    | j + 1 =>
      rw [World.cell?_setCell_other _ _ _ _ (by intro e; injection e with e1 e2; omega)]
      have e : (Lib.byteCells (0 :: Lib.beBytes 32 x.toNat))[k + (j + 1)]? = some v := by
        have hk := HK.out
        have e2 : Lib.beBytes x.nb x.toNat = (Lib.beBytes 32 x.toNat).drop k := by
          rw [← be_drop' (m := 32) (n := x.nb) (by omega), show 32 - x.nb = k by omega]
        rw [← hj, e2]
        simp [Lib.byteCells, List.getElem?_drop, ← Nat.add_assoc]
      have := HROW.out _ _ e
      rwa [Nat.zero_add] at this
  have hs2 : (W1.setCell ⟨w'.heap.size, k, none⟩ (.int .u8 (128 + ((x.nb : Nat) : Int)))).cell? ⟨s, 0, none⟩ = some (.slice none 0 0) := by
    rw [World.cell?_setCell_other _ _ _ _ (by intro e; injection e with e1 e2; omega)]; exact hs1
  have hf2 : (W1.setCell ⟨w'.heap.size, k, none⟩ (.int .u8 (128 + ((x.nb : Nat) : Int)))).frozen? ⟨s, 0, none⟩ = false := by simpa [go_sem] using hf1
  have hbel2 : Below w'.heap.size w' (W1.setCell ⟨w'.heap.size, k, none⟩ (.int .u8 (128 + ((x.nb : Nat) : Int)))) := bel_set hbel _ (Nat.le_refl _) _
  clear hck hfk HROW
  revert HS hs2 hf2 hbel2
  generalize World.setCell _ _ _ = W2
  intro HS hs2 hf2 hbel2
  have HS' := Lib.hid HS
  clear HS
  refine wp_region_noPanic ?_
  refine wp_region_held_drew (S := (fun _ => True)) (by kernel_rfl) (by exact trivial) (fun hHeld => ?_)
  refine hm_take (i := 0) (v := ?_) rfl rfl (by kernel_rfl) (by kernel_rfl) (by kernel_rfl) (fun _ _ _ h => h) rfl ?_ (by assumption) ?_
  rotate_left
  · (intro w hSw; (try dsimp only at hSw); go_simp; try with_reducible rfl)
  try simp only [Act.put, List.setIfInBounds_toArray, List.set_cons_zero, List.set_cons_succ]
  refine hm_take (i := 1) (v := ?_) rfl rfl (by kernel_rfl) (by kernel_rfl) (by kernel_rfl) (fun _ _ _ h => h) rfl ?_ (by assumption) ?_
  rotate_left
  · (intro w hSw; (try dsimp only at hSw); go_simp; try with_reducible rfl)
  try simp only [Act.put, List.setIfInBounds_toArray, List.set_cons_zero, List.set_cons_succ]
  refine hm_take (i := 2) (v := ?_) rfl rfl (by kernel_rfl) (by kernel_rfl) (by kernel_rfl) (fun _ _ _ h => h) rfl ?_ (by assumption) ?_
  rotate_left
  · (intro w hSw; (try dsimp only at hSw); go_simp; try with_reducible rfl)
  try simp only [Act.put, List.setIfInBounds_toArray, List.set_cons_zero, List.set_cons_succ]
  refine hm_take (i := 3) (v := ?_) rfl rfl (by kernel_rfl) (by kernel_rfl) (by kernel_rfl) (fun _ _ _ h => h) rfl ?_ (by assumption) ?_
  rotate_left
  · (intro w hSw; (try dsimp only at hSw); go_simp; try with_reducible rfl)
  try simp only [Act.put, List.setIfInBounds_toArray, List.set_cons_zero, List.set_cons_succ]
  refine hm_take (i := 4) (v := ?_) rfl rfl (by kernel_rfl) (by kernel_rfl) (by kernel_rfl) (fun _ _ _ h => h) rfl ?_ (by assumption) ?_
  rotate_left
  · (intro w hSw; (try dsimp only at hSw); go_simp; try with_reducible rfl)
  try simp only [Act.put, List.setIfInBounds_toArray, List.set_cons_zero, List.set_cons_succ]
  refine hm_take (i := 5) (v := ?_) rfl rfl (by kernel_rfl) (by kernel_rfl) (by kernel_rfl) (fun _ _ _ h => h) rfl ?_ (by assumption) ?_
  rotate_left
  · (intro w hSw; (try dsimp only at hSw); go_simp; try with_reducible rfl)
  try simp only [Act.put, List.setIfInBounds_toArray, List.set_cons_zero, List.set_cons_succ]
  refine hm_take (i := 6) (v := ?_) rfl rfl (by kernel_rfl) (by kernel_rfl) (by kernel_rfl) (fun _ _ _ h => h) rfl ?_ (by assumption) ?_
  rotate_left
  · (intro w hSw; (try dsimp only at hSw); go_simp; try with_reducible rfl)
  try simp only [Act.put, List.setIfInBounds_toArray, List.set_cons_zero, List.set_cons_succ]
  refine hm_call (i := 7) rfl (by kernel_rfl) rfl (fun K hK => ?_)
  go_simp
  (go_at_call 118; refine (sink_any s _ (UInt8.ofNat (128 + x.nb) :: Lib.beBytes x.nb x.toNat) W2.drew hs2 hf2 HS'.out.drew (by simp [be_len]; omega)).mono ?_; rintro e2 w2 ⟨rfl, v, hv, hsv, hb2, hk2⟩)
  (try go_wp2_with fail)
  refine hK.out _ _ (by (try dsimp only); all_goals exact trivial) (fun hHeld => ?_)
  clear hK K
  try simp only [Act.put, List.setIfInBounds_toArray, List.set_cons_zero, List.set_cons_succ]
  refine hm_take (i := 8) (v := ?_) rfl rfl (by kernel_rfl) (by kernel_rfl) (by kernel_rfl) (fun _ _ _ h => h) rfl ?_ (by assumption) ?_
  rotate_left
  · (intro w hSw; (try dsimp only at hSw); go_simp; try with_reducible rfl)
  try simp only [Act.put, List.setIfInBounds_toArray, List.set_cons_zero, List.set_cons_succ]
  refine hm_take (i := 9) (v := ?_) rfl rfl (by kernel_rfl) (by kernel_rfl) (by kernel_rfl) (fun _ _ _ h => h) rfl ?_ (by assumption) ?_
  rotate_left
  · (intro w hSw; (try dsimp only at hSw); go_simp; try with_reducible rfl)
  try simp only [Act.put, List.setIfInBounds_toArray, List.set_cons_zero, List.set_cons_succ]
  refine hm_take (i := 10) (v := ?_) rfl rfl (by kernel_rfl) (by kernel_rfl) (by kernel_rfl) (fun _ _ _ h => h) rfl ?_ (by assumption) ?_
  rotate_left
  · (intro w hSw; (try dsimp only at hSw); go_simp; try with_reducible rfl)
  try simp only [Act.put, List.setIfInBounds_toArray, List.set_cons_zero, List.set_cons_succ]
  refine hm_take (i := 11) (v := ?_) rfl rfl (by kernel_rfl) (by kernel_rfl) (by kernel_rfl) (fun _ _ _ h => h) rfl ?_ (by assumption) ?_
  rotate_left
  · (intro w hSw; (try dsimp only at hSw); go_simp; try with_reducible rfl)
  try simp only [Act.put, List.setIfInBounds_toArray, List.set_cons_zero, List.set_cons_succ]
  refine hm_take (i := 12) (v := ?_) rfl rfl (by kernel_rfl) (by kernel_rfl) (by kernel_rfl) (fun _ _ _ h => h) rfl ?_ (by assumption) ?_
  rotate_left
  · (intro w hSw; (try dsimp only at hSw); go_simp; try with_reducible rfl)
  try simp only [Act.put, List.setIfInBounds_toArray, List.set_cons_zero, List.set_cons_succ]
  refine wpAnyH_done (by kernel_rfl) ?_ _
  refine NoPanic.normal ?_
  go_wp2
  go_ret
  exact ⟨rfl, v, hv, by rw [E.out]; exact hsv, (hbel2.drew.mono (Nat.le_of_lt hlt)).trans hb2⟩
theorem encode_any (b o : Nat) (x : N4) (s : Nat) (w : World) (hx : At4 w b o x) (hbs : b ≠ s) (hs : w.cell? ⟨s, 0, none⟩ = some (.slice none 0 0)) (hf : w.frozen? ⟨s, 0, none⟩ = false) :
    Calls Try.prog 47 #[.pointer (some ⟨b, o, none⟩), .iface 66 (.pointer (some ⟨s, 0, none⟩))] w fun e w' => e = .returned .nilIface ∧ ∃ v, w'.cell? ⟨s, 0, none⟩ = some v ∧ SlB w' v (rlp x) ∧ Below s w w' := by
  rcases Nat.eq_zero_or_pos x.bits with h | h
  · exact encode_zero b o x s w hx h hs hf
  · rcases Nat.lt_or_ge x.bits 8 with h8 | h8
    · exact encode_small b o x s w hx h (by omega) hbs hs hf
    · exact encode_large b o x s w hx h8 hbs hs hf
set_option maxHeartbeats 1000000 in
theorem implRlp_any (x : N4) (w : World) : Calls Try.prog 26 #[x.v] w (RetSlB (rlp x) w) := by
  go_enter Try.func26, Try.ntmps26
  go_wp2_with fail
  refine (intOf_any x _).mono ?_
  rintro e w1 ⟨B, rfl, m⟩
  have hs1 : w1.cell? ⟨w.heap.size + 1, 0, none⟩ = some (.slice none 0 0) := bel_cell m.bel (by simp [go_sem])
  have hf1 : w1.frozen? ⟨w.heap.size + 1, 0, none⟩ = false := (m.bel.frozen (p := ⟨w.heap.size + 1, 0, none⟩) (by simp)).trans (by simp [go_sem])
  have hge := m.ge
  have hb1 : Below w.heap.size w w1 := bel_trans (bel_alloc (bel_alloc (bel_refl w) _) _) m.bel
  go_wp2_with (go_at_call 47; refine (encode_any B 0 x (w.heap.size + 1) _ m.at4 (by simp at hge; omega) hs1 hf1).mono ?_; rintro e w2 ⟨rfl, v, hv, hsv, hb2⟩; obtain ⟨A, cap, rfl, hcap, hsv⟩ := hsv.any; have HV := Lib.hid hsv; clear hsv)
  go_ret
  exact ⟨_, rfl, HV.out, hb1.trans (hb2.mono (by omega))⟩
end Go.Proofs.Ytpmhkmcikjbncaa
