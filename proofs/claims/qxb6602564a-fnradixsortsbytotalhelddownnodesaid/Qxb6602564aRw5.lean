/-
  ZZRadix (24), out of zzB1DealKeys, radix and zzB1SplitKeys.
-/
import Derived.Test.Qxb6602564aRw2
import Derived.Test.Qxb6602564aRw4
namespace Go.Proofs.Qxb6602564a
open Go.RowKit

/-- The keys of three lists. -/
def keysOf (ts hs ns : Nat → Int) : Nat → Pl.Key := fun i => ⟨ts i, hs i, ns i⟩

set_option maxHeartbeats 400000 in
theorem radix24 (a0 : Option Addr) (n c0 : Nat) (ts : Nat → Int) (a1 : Option Addr) (c1 : Nat) (hs : Nat → Int) (a2 : Option Addr) (c2 : Nat) (ns : Nat → Int) (w : World)
    (h0 : IntsAt w w.heap.size a0 n ts) (h1 : IntsAt w w.heap.size a1 n hs) (h2 : IntsAt w w.heap.size a2 n ns) (hpos : 0 < n) (hn : n ≤ 43690) (bh : Bd hs n) (hl : ∀ i, i < n → hs i ≠ -9223372036854775808)
    (st : Span ts n) (sh : Span hs n) (sn : Span ns n) :
    Calls Try.prog 24 #[.slice a0 n c0, .slice a1 n c1, .slice a2 n c2] w fun e w' => ∃ b0 b1 b2 G, e = .returned (.tuple #[.slice b0 n n, .slice b1 n n, .slice b2 n n]) ∧
      IntsAt w' w'.heap.size b0 n (fun i => (G i).t) ∧ IntsAt w' w'.heap.size b1 n (fun i => (G i).h) ∧ IntsAt w' w'.heap.size b2 n (fun i => (G i).n) ∧
      Hid ((Pl.seg G 0 n).Perm (Pl.seg (keysOf ts hs ns) 0 n)) ∧ Hid ((Pl.seg G 0 n).Pairwise (Pl.lexLe 3)) ∧ Below w.heap.size w w' := by
  have hb1 : Below w.heap.size w (w.alloc (.cells #[.slice none 0 0] 48)) := (Below.refl _ _).alloc (Nat.le_refl _) _
  have k0 := h0.keep hb1 hb1.size
  have k1 := h1.keep hb1 hb1.size
  have k2 := h2.keep hb1 hb1.size
  have hso : (w.alloc (.cells #[.slice none 0 0] 48)).cell? ⟨w.heap.size, 0, none⟩ = some (.slice none 0 0) := by simp
  have hsf : (w.alloc (.cells #[.slice none 0 0] 48)).frozen? ⟨w.heap.size, 0, none⟩ = false := by simp
  have hsz : (w.alloc (.cells #[.slice none 0 0] 48)).heap.size = w.heap.size + 1 := by simp
  have hH : Hid (∀ x ∈ Pl.seg (keysOf ts hs ns) 0 n, -9223372036854775808 < x.h ∧ x.h ≤ 9223372036854775807) := by
    intro x hx
    obtain ⟨i, _, hi, rfl⟩ := Pl.mem_seg.1 hx
    have q1 := bh i hi
    have q2 := hl i hi
    show -9223372036854775808 < hs i ∧ hs i ≤ 9223372036854775807
    omega
  have hSp : Hid (∀ k, k < 3 → ∀ x ∈ Pl.seg (keysOf ts hs ns) 0 n, ∀ y ∈ Pl.seg (keysOf ts hs ns) 0 n, Pl.fld k x - Pl.fld k y ≤ 9223372036854775807) := by
    intro k hk x hx y hy
    obtain ⟨i, _, hi, rfl⟩ := Pl.mem_seg.1 hx
    obtain ⟨j, _, hj, rfl⟩ := Pl.mem_seg.1 hy
    match k, hk with
    | 0, _ => exact sn i j hi hj
    | 1, _ =>
      have := sh j i hj hi
      show -(hs i) - -(hs j) ≤ 9223372036854775807
      omega
    | 2, _ => exact st i j hi hj
  clear h0 h1 h2 bh hl st sh sn
  go_enter Try.func24, Try.ntmps24
  go_wp2_with fail
  generalize hW1 : w.alloc (.cells #[.slice none 0 0] 48) = W1 at *
  clear hW1
  refine (deal44 a0 n c0 ts a1 c1 hs a2 c2 ns _ k0 k1 k2 (by omega)).mono ?_
  rintro e w2 ⟨rfl, hrow, hb2⟩
  clear k0 k1 k2
  rw [hsz] at hrow hb2 ⊢
  have s2 : (w2.cell? ⟨w.heap.size, 0, none⟩) = some (.slice none 0 0) := (hb2.cell (p := ⟨w.heap.size, 0, none⟩) (by show w.heap.size < _; omega)).trans hso
  have f2 : (w2.frozen? ⟨w.heap.size, 0, none⟩) = false := (hb2.frozen (p := ⟨w.heap.size, 0, none⟩) (by show w.heap.size < _; omega)).trans hsf
  have z2 : w.heap.size ≤ w2.heap.size := by have := hb2.size; omega
  clear hso hsf
  go_wp2_with fail
  refine (radix45 w.heap.size w.heap.size (w.heap.size + 1) n _ _ hpos hn (Nat.le_refl _) (by omega) (by omega) z2 s2 f2 hrow hH.out hSp.out).mono ?_
  rintro e w3 ⟨rfl, G, hrow3, hpm, hpw, hb3⟩
  have HPM : Hid ((Pl.seg G 0 n).Perm (Pl.seg (keysOf ts hs ns) 0 n)) := hpm
  have HPW : Hid ((Pl.seg G 0 n).Pairwise (Pl.lexLe 3)) := hpw
  have hbel : Below w.heap.size w w3 := (hb1.trans (hb2.mono (by omega))).trans hb3
  clear hpm hpw hrow s2 f2
  go_wp2_with fail
  refine (split46 (w.heap.size + 1) n G _ hrow3 (by omega)).mono ?_
  rintro e w4 ⟨b0, b1, b2, rfl, i0, i1, i2, hb4⟩
  go_wp2_with fail
  go_ret3
  exact ⟨b0, b1, b2, G, rfl, i0, i1, i2, HPM, HPW, hbel.trans (hb4.mono hbel.size)⟩
end Go.Proofs.Qxb6602564a
