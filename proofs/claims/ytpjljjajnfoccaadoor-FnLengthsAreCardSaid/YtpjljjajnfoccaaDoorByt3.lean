/-
  Contracts of uint256's Bytes32, Bytes20, Bytes, ByteLen, and of the thin package's calls of them.
-/
import Derived.Test.YtpjljjajnfoccaaDoorBin
import Derived.Test.YtpjljjajnfoccaaDoorRegion2
namespace Go.Proofs.YtpjljjajnfoccaaDoor
open Go.RowKit
set_option linter.unusedVariables false
set_option linter.unusedSimpArgs false
set_option maxRecDepth 100000
theorem bytes_len (l : List UInt8) : (Lib.byteCells l).length = l.length := Lib.byteCells_length l
theorem bytes_one (l : List UInt8) : (Lib.byteCells l).toArray.all (·.oneCell') = true := all_oneCell_toArray fun v hv => by
  simp only [Lib.byteCells, List.mem_map] at hv
  obtain ⟨d, _, rfl⟩ := hv
  rfl
theorem rangeAt_append {w : World} {g o : Nat} {cs ds : List Value} (h : w.rangeAt g o cs) (k : w.rangeAt g (o + cs.length) ds) : w.rangeAt g o (cs ++ ds) := fun j v hj => by
  rw [List.getElem?_append] at hj
  by_cases hlt : j < cs.length
  · rw [if_pos hlt] at hj
    exact h j v hj
  · rw [if_neg hlt] at hj
    have := k _ v hj
    rwa [show o + cs.length + (j - cs.length) = o + j by omega] at this
theorem SlB.of_range {w : World} {g o n c : Nat} {l : List UInt8} (h : w.rangeAt g o (Lib.byteCells l)) (hn : n = l.length) (hc : n ≤ c) : SlB w (.slice (some ⟨g, o, none⟩) n c) l := by
  subst hn
  exact ⟨_, c, rfl, hc, fun i b hb => ⟨g, o, rfl, h i _ (bytes_get l i b hb)⟩⟩
theorem SlB.eq {w : World} {v : Value} {l m : List UInt8} (h : SlB w v l) (e : l = m) : SlB w v m := e ▸ h
theorem there_part {w : World} {g n o k : Nat} (h : w.there g 0 n) (hk : o + k ≤ n) : w.there g o k := fun j hj => by
  have := h (o + j) (by omega)
  rwa [Nat.zero_add] at this
theorem there_bel' {w w' : World} {b o n : Nat} (h : w.there b o n) (k : Below w.heap.size w w') : w'.there b o n := fun j hj => by
  have := there_bel h (by omega) k j hj
  exact this
/-- A row of bytes that is being filled: the first bytes l stand in block g. -/
structure Fill (w : World) (b o : Nat) (x : N4) (g r n : Nat) (l : List UInt8) (W : World) : Prop where
  at4 : At4 W b o x
  here : W.there g 0 n
  res : W.there r 0 n
  row : W.rangeAt g 0 (Lib.byteCells l)
  bel : Below w.heap.size w W
theorem Fill.put {w W : World} {b o g r n : Nat} {x : N4} {l : List UInt8} (h : Fill w b o x g r n l W) (hb : b < w.heap.size) (hg : w.heap.size ≤ g) (m : List UInt8) (hm : l.length + m.length ≤ n) (ob : Obj) :
    Fill w b o x g r n (l ++ m) ((W.alloc ob).drew.setCells g l.length (Lib.byteCells m)) := by
  show Fill w b o x g r n (l ++ m) ((W.drew.alloc ob).setCells g l.length (Lib.byteCells m))
  have hne : b ≠ g := by omega
  refine ⟨?_, ?_, World.there_setCells (World.there_alloc ((World.there_drew W r 0 n).2 h.res) ob) _ _ _, ?_, ?_⟩
  · exact ((h.at4.drewN 1).alloc ob).setFar4 hne
  · exact World.there_setCells (World.there_alloc ((World.there_drew W g 0 n).2 h.here) ob) _ _ _
  · rw [Lib.byteCells_append]
    refine rangeAt_append (World.rangeAt_setCells_apart (World.rangeAt_alloc ((World.rangeAt_drew W g 0 _).2 h.row) ob) _ _ _ (.inr (.inl (by rw [bytes_len]; omega)))) ?_
    rw [bytes_len, Nat.zero_add]
    exact World.rangeAt_setCells_same _ _ _ _ (there_part (World.there_alloc ((World.there_drew W g 0 n).2 h.here) ob) (by rw [bytes_len]; exact hm))
  · exact setCells_bel' (bel_alloc (bel_drew h.bel) ob) hg
theorem Fill.same {w W : World} {b o g r n : Nat} {x : N4} {l m : List UInt8} (h : Fill w b o x g r n l W) (e : l = m) : Fill w b o x g r n m W := e ▸ h
theorem Fill.start (w : World) (b o : Nat) (x : N4) (hx : At4 w b o x) (n : Nat) (A : Array Value) (hA : A.size = n) (t : TypeId) : Fill w b o x (w.heap.size + 1) w.heap.size n [] ((w.alloc (.cells A t)).alloc (.cells A t)) := by
  refine ⟨(hx.alloc _).alloc _, ?_, World.there_alloc (there_new w t A n (by omega)) _, fun j v hv => by simp [Lib.byteCells] at hv, bel_alloc (bel_alloc (bel_refl w) _) _⟩
  have := there_new (w.alloc (.cells A t)) t A n (by omega)
  simpa using this
theorem u32_of (c : W64) : IntKind.u32.wrap (U c) = ((c.toNat % 4294967296 : Nat) : Int) := by
  unfold U
  simp [IntKind.wrap, IntKind.bits, IntKind.signed]
/-- The 32 bytes, word by word. -/
theorem be32_words (x : N4) : ((Lib.beBytes 8 x.d.toNat ++ Lib.beBytes 8 x.c.toNat) ++ Lib.beBytes 8 x.b.toNat) ++ Lib.beBytes 8 x.a.toNat = Lib.beBytes 32 x.toNat := by
  have h0 := x.a.isLt; have h1 := x.b.isLt; have h2 := x.c.isLt; have h3 := x.d.isLt
  rw [show (32 : Nat) = 24 + 8 from rfl, be_append, show (24 : Nat) = 16 + 8 from rfl, be_append, show (16 : Nat) = 8 + 8 from rfl, be_append]
  congr 1
  · congr 1
    · congr 1
      · exact be_mod _ _ _ (by unfold N4.toNat; omega)
      · exact be_mod _ _ _ (by unfold N4.toNat; omega)
    · exact be_mod _ _ _ (by unfold N4.toNat; omega)
  · exact be_mod _ _ _ (by unfold N4.toNat; omega)
theorem be20_words (x : N4) : (Lib.beBytes 4 (x.c.toNat % 4294967296) ++ Lib.beBytes 8 x.b.toNat) ++ Lib.beBytes 8 x.a.toNat = Lib.beBytes 20 x.toNat := by
  have h0 := x.a.isLt; have h1 := x.b.isLt; have h2 := x.c.isLt; have h3 := x.d.isLt
  rw [show (20 : Nat) = 12 + 8 from rfl, be_append, show (12 : Nat) = 4 + 8 from rfl, be_append]
  congr 1
  · congr 1
    · exact be_mod _ _ _ (by unfold N4.toNat; omega)
    · exact be_mod _ _ _ (by unfold N4.toNat; omega)
  · exact be_mod _ _ _ (by unfold N4.toNat; omega)
set_option maxHeartbeats 400000 in
theorem byteLen_any (b o : Nat) (x : N4) (w : World) (hx : At4 w b o x) : Calls Tryd.prog 43 #[.pointer (some ⟨b, o, none⟩)] w fun e w' => e = .returned (.int .i64 (x.nb : Nat)) ∧ w = w' := by
  have hb := (bits_spec x).2.2
  have e : Hid ((((x.bits : Nat) : Int) + 7) / 8 = ((x.nb : Nat) : Int)) := by show (((x.bits : Nat) : Int) + 7) / 8 = _; unfold N4.nb; omega
  go_enter Tryd.func43, Tryd.ntmps43
  go_wp2_with fail
  refine (bitLen_any b o x _ hx).mono ?_
  rintro e1 w' ⟨rfl, hw⟩
  subst hw
  go_wp2
  go_ret
  rw [← e.out]
  exact ⟨rfl, rfl⟩
theorem range_drop {w : World} {g o : Nat} {cs : List Value} (h : w.rangeAt g o cs) (k : Nat) (hk : k ≤ cs.length) : w.rangeAt g (o + k) (cs.drop k) := fun j v hj => by
  rw [List.getElem?_drop] at hj
  have := h _ v hj
  rwa [← Nat.add_assoc] at this
end Go.Proofs.YtpjljjajnfoccaaDoor
