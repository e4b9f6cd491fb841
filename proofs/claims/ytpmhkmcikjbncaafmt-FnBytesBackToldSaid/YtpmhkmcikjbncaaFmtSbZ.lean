/-
  SetBytes by all cases; setFew, setMany; the thin package's SetBytes and SetBytesOf.
-/
import Derived.Test.YtpmhkmcikjbncaaFmtSbA
import Derived.Test.YtpmhkmcikjbncaaFmtSbB
import Derived.Test.YtpmhkmcikjbncaaFmtSbC
import Derived.Test.YtpmhkmcikjbncaaFmtPut
namespace Go.Proofs.YtpmhkmcikjbncaaFmt
open Go.RowKit
set_option linter.unusedVariables false
set_option linter.unusedSimpArgs false
set_option maxRecDepth 100000
theorem setBytes_any (b o : Nat) (z : N4) (g q n cap : Nat) (l : List UInt8) (w : World) (hz : At4 w b o z) (fz : Free4 w b o) (hB : BytesAt w g q l) (hl : l.length = n) (hn2 : n ≤ 4294967296) (hcap : n ≤ cap) (hne : g ≠ b) :
    Calls Tryf.prog 19 #[.pointer (some ⟨b, o, none⟩), .slice (some ⟨g, q, none⟩) n cap] w (RetLeft b o (ofN (Lib.beNat (l.drop (l.length - 32)))) w) := by
  rcases Nat.lt_or_ge n 32 with h | h
  · rw [show l.length - 32 = 0 by omega, List.drop_zero]
    rcases (by omega : n = 0 ∨ n = 1 ∨ n = 2 ∨ n = 3 ∨ n = 4 ∨ n = 5 ∨ n = 6 ∨ n = 7 ∨ n = 8 ∨ n = 9 ∨ n = 10 ∨ n = 11 ∨ n = 12 ∨ n = 13 ∨ n = 14 ∨ n = 15 ∨ n = 16 ∨ n = 17 ∨ n = 18 ∨ n = 19 ∨ n = 20 ∨ n = 21 ∨ n = 22 ∨ n = 23 ∨ n = 24 ∨ n = 25 ∨ n = 26 ∨ n = 27 ∨ n = 28 ∨ n = 29 ∨ n = 30 ∨ n = 31) with rfl | rfl | rfl | rfl | rfl | rfl | rfl | rfl | rfl | rfl | rfl | rfl | rfl | rfl | rfl | rfl | rfl | rfl | rfl | rfl | rfl | rfl | rfl | rfl | rfl | rfl | rfl | rfl | rfl | rfl | rfl | rfl
    · obtain rfl := List.eq_nil_of_length_eq_zero hl
      exact sbCase0 b o z _ cap w hz fz
    · exact sbCase1 b o z g q cap l w hz fz hB hl hcap hne
    · exact sbCase2 b o z g q cap l w hz fz hB hl hcap hne
    · exact sbCase3 b o z g q cap l w hz fz hB hl hcap hne
    · exact sbCase4 b o z g q cap l w hz fz hB hl hcap hne
    · exact sbCase5 b o z g q cap l w hz fz hB hl hcap hne
    · exact sbCase6 b o z g q cap l w hz fz hB hl hcap hne
    · exact sbCase7 b o z g q cap l w hz fz hB hl hcap hne
    · exact sbCase8 b o z g q cap l w hz fz hB hl hcap hne
    · exact sbCase9 b o z g q cap l w hz fz hB hl hcap hne
    · exact sbCase10 b o z g q cap l w hz fz hB hl hcap hne
    · exact sbCase11 b o z g q cap l w hz fz hB hl hcap hne
    · exact sbCase12 b o z g q cap l w hz fz hB hl hcap hne
    · exact sbCase13 b o z g q cap l w hz fz hB hl hcap hne
    · exact sbCase14 b o z g q cap l w hz fz hB hl hcap hne
    · exact sbCase15 b o z g q cap l w hz fz hB hl hcap hne
    · exact sbCase16 b o z g q cap l w hz fz hB hl hcap hne
    · exact sbCase17 b o z g q cap l w hz fz hB hl hcap hne
    · exact sbCase18 b o z g q cap l w hz fz hB hl hcap hne
    · exact sbCase19 b o z g q cap l w hz fz hB hl hcap hne
    · exact sbCase20 b o z g q cap l w hz fz hB hl hcap hne
    · exact sbCase21 b o z g q cap l w hz fz hB hl hcap hne
    · exact sbCase22 b o z g q cap l w hz fz hB hl hcap hne
    · exact sbCase23 b o z g q cap l w hz fz hB hl hcap hne
    · exact sbCase24 b o z g q cap l w hz fz hB hl hcap hne
    · exact sbCase25 b o z g q cap l w hz fz hB hl hcap hne
    · exact sbCase26 b o z g q cap l w hz fz hB hl hcap hne
    · exact sbCase27 b o z g q cap l w hz fz hB hl hcap hne
    · exact sbCase28 b o z g q cap l w hz fz hB hl hcap hne
    · exact sbCase29 b o z g q cap l w hz fz hB hl hcap hne
    · exact sbCase30 b o z g q cap l w hz fz hB hl hcap hne
    · exact sbCase31 b o z g q cap l w hz fz hB hl hcap hne
  · rw [hl]
    exact sbCase32 b o z g q n cap l w hz fz hB hl h hn2 hcap hne

theorem left_grown {W W1 w' : World} {b o : Nat} {z : N4} (h : Below W.heap.size W W1) (k : Left W1 b o z w') (hb : W.heap.size ≤ b) : Below W.heap.size W w' :=
  (put4_bel h hb).trans (k.bel.mono h.size)
theorem there_new1 (w : World) (ob : Obj) (t : TypeId) (cs : Array Value) (n : Nat) (hn : n ≤ cs.size) : ((w.alloc ob).alloc (.cells cs t)).there (w.heap.size + 1) 0 n := by
  have := there_new (w.alloc ob) t cs n hn
  simpa using this
/-- A copy, opened: nil, or a block of its own. -/
theorem own_open {w : World} {base e : Nat} {v : Value} {l : List UInt8} (h : w.ownsRow base e 1 v l.length (Lib.byteCells l)) :
    (v = .slice none 0 0 ∧ l = []) ∨ ∃ g cap, v = .slice (some ⟨g, 0, none⟩) l.length cap ∧ l.length ≤ cap ∧ base ≤ g ∧ g < w.heap.size ∧ BytesAt w g 0 l := by
  rcases h.2 with ⟨h1, hn⟩ | ⟨g, cap, cur, h1, h2, _, h3, _⟩
  · exact .inl ⟨h1, List.eq_nil_of_length_eq_zero hn⟩
  · subst h1
    refine .inr ⟨g, cap, rfl, h3, h2, (h.lt g rfl).2, fun i b hb => ?_⟩
    have := h.cells (g := g) rfl i _ (bytes_get l i b hb)
    rwa [Addr.add_mid] at this
set_option maxHeartbeats 1000000 in
theorem implSetBytes_any (z : N4) (v : Value) (l : List UInt8) (w : World) (hv : SlB w v l) (hl : l.length ≤ 2147483647) : Calls Tryf.prog 8 #[z.v, v] w (RetBel (ofN (Lib.beNat (l.drop (l.length - 32)))).v w) := by
  obtain ⟨y, hy⟩ : ∃ y, ofN (Lib.beNat (l.drop (l.length - 32))) = y := ⟨_, rfl⟩
  rw [hy]
  go_enter Tryf.func8, Tryf.ntmps8
  go_wp2_with fail
  refine (intOf_any z _).mono ?_
  rintro e w0 ⟨B, rfl, m⟩
  have hth0 : w0.there (w.heap.size + 1) 0 4 := there_bel (there_new1 w (.cells #[V z.a, V z.b, V z.c, V z.d] 25) 25 #[.int .u64 0, .int .u64 0, .int .u64 0, .int .u64 0] 4 (by simp)) (by omega) m.bel
  have hb0 := bel_trans (bel_alloc (bel_alloc (bel_refl w) _) _) m.bel
  have hge := m.ge
  simp at hge
  go_wp2_with fail
  refine (copied_any v l _ (hv.bel hb0) (by omega)).mono ?_
  rintro e w1 ⟨v1, rfl, hown, hb1⟩
  have hBl := m.at4.lt
  have SET : Hid (∀ w, At4 w B 0 z → Free4 w B 0 → w.ownsRow w0.heap.size 5 1 v1 l.length (Lib.byteCells l) → Calls Tryf.prog 19 #[.pointer (some ⟨B, 0, none⟩), v1] w (RetLeft B 0 y w)) := fun w h1 h2 h3 => by
    rw [← hy]
    rcases own_open h3 with ⟨rfl, rfl⟩ | ⟨g, cap, rfl, hc, hg1, hg2, hB⟩
    · exact sbCase0 B 0 z _ _ w h1 h2
    · exact setBytes_any B 0 z g 0 l.length cap l w h1 h2 hB rfl (by omega) hc (by omega)
  have HO := Lib.hid hown
  have HY := Lib.hid hy
  clear hown hy
  have hz1 := m.at4.bel hb1
  have fz1 := m.free.bel hBl hb1
  go_wp2_with fail
  refine (SET.out _ hz1 fz1 HO.out).mono ?_
  rintro e w2 ⟨rfl, H⟩
  have hb2 := left_grown (bel_trans hb0 hb1) H (by omega)
  have hz2 := H.atz hz1
  have hth2 : w2.there (w.heap.size + 1) 0 4 := fun j hj => by
    have h0 := there_bel hth0 (by omega) hb1 j hj
    have hlt : w.heap.size + 1 < w1.heap.size := by have := hb1.size; omega
    have e1 : ∀ p : Nat, w2.cell? ⟨w.heap.size + 1, p, none⟩ = w1.cell? ⟨w.heap.size + 1, p, none⟩ := fun p => (H.bel.cell (p := ⟨w.heap.size + 1, p, none⟩) hlt).trans (put4_cell _ _ _ _ _ _ (fun e => by omega))
    have e2 : ∀ p : Nat, w2.frozen? ⟨w.heap.size + 1, p, none⟩ = w1.frozen? ⟨w.heap.size + 1, p, none⟩ := fun p => (H.bel.frozen (p := ⟨w.heap.size + 1, p, none⟩) hlt).trans (put4_frozen _ _ _ _ _)
    rw [e1, e2]
    exact h0
  go_wp2_with fail
  refine (numOf_any B 0 y _ hz2).mono ?_
  rintro e w3 ⟨rfl, hb3⟩
  have hth3 := there_bel hth2 (by omega) hb3
  go_wp2_with (refine wpList_store_mid rfl 25 _ _ rfl (w.heap.size + 1) 0 [V y.a, V y.b, V y.c, V y.d].toArray rfl rfl hth3 (by kernel_rfl) (by simp [Value.oneCell']) ?_)
  exact retBel_row rfl rfl (w.heap.size + 1) [V y.a, V y.b, V y.c, V y.d] _ rfl (World.rangeAt_setCells_same w3 _ 0 _ hth3) Tryf.underlying25 rfl (by kernel_rfl) rfl (setCells_bel (bel_trans hb2 hb3) (Nat.le_succ _))
end Go.Proofs.YtpmhkmcikjbncaaFmt
