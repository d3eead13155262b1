/-
  What the laws say of a holder table; FnHeldByReadsTheHolderTable's walk.
-/
import Derived.Test.Qxb6603549aTab3
namespace Go.Proofs.Qxb6603549a
open Go.RowKit

theorem MapIs.keep {W W' : World} {om : Option Nat} {ps : List (Nat × Int)} (h : MapIs W om ps) (hb : Below W.heap.size W W') : MapIs W' om ps := by
  rcases h with h | ⟨bm, es, clock, h1, h2, h3⟩
  · exact .inl h
  · exact .inr ⟨bm, es, clock, h1, (hb.block bm (Array.getElem?_eq_some_iff.1 h2).1).trans h2, h3⟩

theorem OwnB.keep {W W' : World} {b : Nat} (h : OwnB W b) (hb : Below W.heap.size W W') : OwnB W' b := by
  obtain ⟨c, h⟩ := h
  exact ⟨c, (hb.block b (Array.getElem?_eq_some_iff.1 h).1).trans h⟩

/-- Holders out of the pool: first holder f in mode fm, others om; what they say of the pool's owner i is A i. -/
structure TabV (W : World) (bp n : Nat) (A : Nat → Int × Bool) (f : Option Nat) (fm : Int) (om : Option Nat) (ps : List (Nat × Int)) : Prop where
  map : MapIs W om ps
  first : ∀ c, f = some c → ∃ i, i ≤ n ∧ c = bp + 1 + i
  others : ∀ p ∈ ps, ∃ i, i ≤ n ∧ p.1 = bp + 1 + i
  says : ∀ i, i ≤ n → says f fm ps (bp + 1 + i) = A i

/-- Lock bl, on the name s, says A i of the pool's owner i. -/
def Tab (W : World) (bl bp n : Nat) (A : Nat → Int × Bool) (s : ByteArray) : Prop :=
  ∃ f fm om ps, LockAt W bl s (oaddr f) fm om ∧ TabV W bp n A f fm om ps

theorem TabV.keep {W W' : World} {bp n : Nat} {A : Nat → Int × Bool} {f : Option Nat} {fm : Int} {om : Option Nat} {ps : List (Nat × Int)} (h : TabV W bp n A f fm om ps) (hb : Below W.heap.size W W') : TabV W' bp n A f fm om ps :=
  ⟨h.map.keep hb, h.first, h.others, h.says⟩

theorem Tab.keep {W W' : World} {bl bp n : Nat} {A : Nat → Int × Bool} {s : ByteArray} (h : Tab W bl bp n A s) (hb : Below W.heap.size W W') : Tab W' bl bp n A s := by
  obtain ⟨f, fm, om, ps, h1, h2⟩ := h
  exact ⟨f, fm, om, ps, h1.of_block (hb.block _ h1.lt), h2.keep hb⟩

theorem Tab.lt {W : World} {bl bp n : Nat} {A : Nat → Int × Bool} {s : ByteArray} (h : Tab W bl bp n A s) : bl < W.heap.size := by
  obtain ⟨_, _, _, _, h1, _⟩ := h
  exact h1.lt

/-- Owner i < n in mode md i; owner n not. -/
def inModes (n : Nat) (md : Nat → Int) (i : Nat) : Int × Bool := if i < n then (md i, true) else (0, false)

theorem says_tab (o0 n fi : Nat) (md : Nat → Int) (hf : fi < n) (i : Nat) : says (some (o0 + fi)) (md fi) (psTo o0 fi md n) (o0 + i) = inModes n md i := by
  unfold says inModes
  rw [lkp_psTo]
  by_cases e : i = fi
  · subst e; rw [if_pos rfl, if_pos hf]
  · rw [if_neg (fun h => e (by have := Option.some.inj h; omega))]
    by_cases h : i < n
    · rw [if_pos h, if_pos ⟨h, e⟩]; rfl
    · rw [if_neg h, if_neg (by omega)]; rfl

theorem held_tab {W : World} {bl bp n : Nat} {A : Nat → Int × Bool} {s : ByteArray} (h : Tab W bl bp n A s) (ho : ∀ i, i ≤ n → OwnB W (bp + 1 + i)) {i : Nat} (hi : i ≤ n) :
    Calls Try.prog 14 #[.pointer (some ⟨bl, 0, none⟩), .pointer (some ⟨bp + 1 + i, 0, none⟩)] W fun e w' => e = .returned (.tuple #[.int .i64 (A i).1, .bool (A i).2]) ∧ w' = W := by
  obtain ⟨f, fm, om, ps, h1, h2⟩ := h
  have h3 := heldby14 bl (bp + 1 + i) s f fm om ps W h1 (ho i hi) (fun c hc => by obtain ⟨j, hj, rfl⟩ := h2.first c hc; exact ho j hj) h2.map (fun p hp => by obtain ⟨j, hj, e⟩ := h2.others p hp; rw [e]; exact ho j hj)
  rw [h2.says i hi] at h3
  exact h3

/-- holderTable, with no holder or with some. -/
theorem table12_any (bp n : Nat) (fi : Int) (a : Option Addr) (cap : Nat) (md : Nat → Int) (w : World) (hp : Pool w bp (n + 1)) (hi : IntsAt w w.heap.size a n md) (hf : n = 0 ∨ 0 ≤ fi ∧ fi < (n : Int)) (hn : n ≤ 4096) :
    Calls Try.prog 12 #[.slice (some ⟨bp, 0, none⟩) (n + 1) (n + 1), .slice a n cap, .int .i64 fi] w fun e w' => ∃ f fm om ps, e = .returned (.tuple #[.pointer (oaddr f), .int .i64 fm, .map om]) ∧ TabV w' bp n (inModes n md) f fm om ps ∧ Below w.heap.size w w' := by
  by_cases h0 : n = 0
  · subst h0
    refine (table12_none bp 1 a cap fi w).mono ?_
    rintro e w' ⟨rfl, rfl⟩
    exact ⟨none, 0, none, [], rfl, ⟨.inl ⟨rfl, rfl⟩, (fun c h => by cases h), (fun p h => by cases h), fun i hi => rfl⟩, Below.refl _ _⟩
  · obtain ⟨j, rfl⟩ : ∃ j : Nat, fi = (j : Int) := ⟨fi.toNat, by omega⟩
    refine (table12 bp n j a cap md w hp hi (by omega) hn).mono ?_
    rintro e w' ⟨om, rfl, hm, hb⟩
    refine ⟨some (bp + 1 + j), md j, om, psTo (bp + 1) j md n, rfl, ⟨hm, fun c h => ⟨j, by omega, (Option.some.inj h).symm⟩, fun p h => ?_, fun i _ => says_tab (bp + 1) n j md (by omega) i⟩, hb⟩
    obtain ⟨i, h1, h2⟩ := mem_psTo h
    exact ⟨i, by omega, h2⟩

set_option maxHeartbeats 400000 in
theorem zz10 (a : Option Addr) (len cap : Nat) (fi : Int) (w : World) (h0 : len ≤ maxLen) :
    Calls Try.prog 10 #[.slice a len cap, .int .i64 fi] w fun e w' => (e = .returned (.bool false) ∨ e = .returned (.bool true)) ∧ w' = w := by
  unfold maxLen at *
  go_enter Try.func10, Try.ntmps10
  go_wp2
  all_goals go_ret
  all_goals simp

set_option maxRecDepth 100000 in
set_option maxHeartbeats 800000 in
theorem law4 (a : Option Addr) (n cap : Nat) (md : Nat → Int) (fi : Int) (w : World) (hs : IntsAt w w.heap.size a n md) (hlen : n ≤ maxLen) :
    Calls Try.prog 4 #[.slice a n cap, .int .i64 fi] w fun e w' => e = .returned (.bool true) ∧ Below w.heap.size w w' := by
  go_enter Try.func4, Try.ntmps4
  go_wp2_with fail
  refine (zz10 a n cap fi _ hlen).mono ?_
  rintro e v1 ⟨rfl | rfl, rfl⟩
  · go_wp2_with fail
    go_ret
    exact ⟨rfl, Below.refl _ _⟩
  unfold maxLen at *
  by_cases g0 : 4096 < n
  · have z0 : (4096 : Int) < (n : Int) := by omega
    go_wp2_with fail
    go_ret
    exact ⟨rfl, Below.refl _ _⟩
  have z0 : (n : Int) ≤ 4096 := by omega
  by_cases g1 : 0 < n ∧ (fi < 0 ∨ (n : Int) ≤ fi)
  · have z1 : (0 : Int) < (n : Int) := by omega
    by_cases g2 : fi < 0
    · go_wp2_with fail
      go_ret
      exact ⟨rfl, Below.refl _ _⟩
    · have z2 : decide (fi < 0) = false := decide_eq_false g2
      have z3 : (n : Int) ≤ fi := by omega
      go_wp2_with fail
      go_ret
      exact ⟨rfl, Below.refl _ _⟩
  have hg : Hid (n = 0 ∨ 0 ≤ fi ∧ fi < (n : Int)) := by show _ ∨ _; omega
  clear g1
  have hs0 : Hid (IntsAt v1 v1.heap.size a n md) := hs
  clear hs
  by_cases hn0 : n = 0
  · subst hn0
    clear z0 g0 hlen
    go_wp2_with fail
    refine (show Calls Try.prog 11 #[.int .i64 1] v1 _ from pool11 1 v1 (by omega)).mono ?_
    rintro e w1 ⟨rfl, hp1, hb1⟩
    have hbp1 : v1.heap.size + 1 < w1.heap.size := by have := hp1.lt (i := 0) (by omega); omega
    go_wp2_with fail
    refine (table12_any v1.heap.size 0 fi a cap md _ hp1 (hs0.out.keep hb1 hb1.size) (.inl rfl) (by omega)).mono ?_
    rintro e w2 ⟨f, fm, om, ps, rfl, ht2, hb2⟩
    go_wp2_with fail
    refine (name8 _ _).mono ?_
    rintro e w3 ⟨rfl, hb3⟩
    go_wp2_with fail
    refine (newlock13 _ (oaddr f) fm om _).mono ?_
    rintro e w4 ⟨bl, rfl, hbl, hl4, hb4⟩
    have hB : Below w1.heap.size w1 w4 := (hb2.trans (hb3.mono hb2.size)).trans (hb4.mono (Nat.le_trans hb2.size hb3.size))
    have hp4 := hp1.keep (by omega) hB hbp1
    have HB : Hid (Below v1.heap.size v1 w4) := hb1.trans (hB.mono hb1.size)
    have HT : Hid (Tab w4 bl v1.heap.size 0 (inModes 0 md) _) := ⟨f, fm, om, ps, hl4, (ht2.keep hb3).keep hb4⟩
    have HO : Hid (∀ i, i ≤ 0 → OwnB w4 (v1.heap.size + 1 + i)) := fun i hi => (hp4.own i (by omega)).b
    have hrow := hp4.row
    clear hl4 hb4 hb3 hb2 hb1 ht2 hp1 hB hp4 hbl hbp1 hs0
    go_wp2_with fail
    go_loopg [11] 1 (fun g s11 wr => ∃ k : Nat, k ≤ 1 ∧ g = 1 - k ∧ s11 = .int .i64 k ∧ wr = w4)
    case atStart => exact ⟨0, Nat.zero_le _, rfl, rfl, rfl⟩
    case round =>
      obtain ⟨k, hk, rfl, rfl, rfl⟩ := hrel
      by_cases hlt : k ≤ 0
      · obtain rfl : k = 0 := by omega
        have pk := hrow.cell (i := 0) (by omega)
        go_wp2_with fail
        refine (held_tab HT.out HO.out hlt).mono ?_
        rintro e w5 ⟨rfl, rfl⟩
        have ha : inModes 0 md 0 = (0, false) := rfl
        rw [ha]
        clear ha
        go_wp2_with fail
        go_roundg 0
        case measure => omega
        case rel => exact ⟨1, by omega, rfl, by go_num, rfl⟩
      · obtain rfl : k = 1 := by omega
        go_wp2_with fail
        go_ret
        exact ⟨rfl, HB.out⟩
  · have z1 : (0 : Int) < (n : Int) := by omega
    have z2 : decide (fi < 0) = false := decide_eq_false (by have := hg.out; omega)
    have z3 : decide ((n : Int) ≤ fi) = false := decide_eq_false (by have := hg.out; omega)
    go_wp2_with fail
    rw [show ((n : Int) + 1) = ((n + 1 : Nat) : Int) by omega]
    refine (pool11 (n + 1) _ (by omega)).mono ?_
    rintro e w1 ⟨rfl, hp1, hb1⟩
    have hbp1 : v1.heap.size + (n + 1) < w1.heap.size := by have := hp1.lt (i := n) (by omega); omega
    go_wp2_with fail
    refine (table12_any v1.heap.size n fi a cap md _ hp1 (hs0.out.keep hb1 hb1.size) hg.out (by omega)).mono ?_
    rintro e w2 ⟨f, fm, om, ps, rfl, ht2, hb2⟩
    go_wp2_with fail
    refine (name8 _ _).mono ?_
    rintro e w3 ⟨rfl, hb3⟩
    go_wp2_with fail
    refine (newlock13 _ (oaddr f) fm om _).mono ?_
    rintro e w4 ⟨bl, rfl, hbl, hl4, hb4⟩
    have hB : Below w1.heap.size w1 w4 := (hb2.trans (hb3.mono hb2.size)).trans (hb4.mono (Nat.le_trans hb2.size hb3.size))
    have hp4 := hp1.keep (by omega) hB hbp1
    have HB : Hid (Below v1.heap.size v1 w4) := hb1.trans (hB.mono hb1.size)
    have HT : Hid (Tab w4 bl v1.heap.size n (inModes n md) _) := ⟨f, fm, om, ps, hl4, (ht2.keep hb3).keep hb4⟩
    have HI : Hid (IntsAt w4 w4.heap.size a n md) := hs0.out.keep HB.out HB.out.size
    have HO : Hid (∀ i, i ≤ n → OwnB w4 (v1.heap.size + 1 + i)) := fun i hi => (hp4.own i (by omega)).b
    have hrow := hp4.row
    clear hl4 hb4 hb3 hb2 hb1 ht2 hp1 hB hp4 hbl hbp1
    go_wp2_with fail
    go_loopg [11] (n + 1) (fun g s11 wr => ∃ k : Nat, k ≤ n + 1 ∧ g = n + 1 - k ∧ s11 = .int .i64 k ∧ wr = w4)
    case atStart => exact ⟨0, Nat.zero_le _, rfl, rfl, rfl⟩
    case round =>
      obtain ⟨k, hk, rfl, rfl, rfl⟩ := hrel
      by_cases hlt : k ≤ n
      · have hkz : (k : Int) ≤ (n : Int) := by omega
        have pk := hrow.cell (i := k) (by omega)
        go_wp2_with fail
        refine (held_tab HT.out HO.out hlt).mono ?_
        rintro e w5 ⟨rfl, rfl⟩
        by_cases hkn : k < n
        · have hkn' : (k : Int) < (n : Int) := by omega
          obtain ⟨b, off, rfl, hb, hc⟩ := HI.out (by omega)
          have mk := hc k hkn
          have ha : inModes n md k = (md k, true) := by unfold inModes; rw [if_pos hkn]
          rw [ha]
          clear ha hc
          go_wp2_with fail
          go_roundg (n + 1 - (k + 1))
          case measure => omega
          case rel => exact ⟨k + 1, by omega, rfl, by go_num, rfl⟩
        · have hkn' : decide ((k : Int) < (n : Int)) = false := decide_eq_false (by omega)
          have ha : inModes n md k = (0, false) := by unfold inModes; rw [if_neg hkn]
          rw [ha]
          clear ha
          go_wp2_with fail
          go_roundg (n + 1 - (k + 1))
          case measure => omega
          case rel => exact ⟨k + 1, by omega, rfl, by go_num, rfl⟩
      · have hkz : decide ((k : Int) ≤ (n : Int)) = false := decide_eq_false (by omega)
        go_wp2_with fail
        go_ret
        exact ⟨rfl, HB.out⟩
end Go.Proofs.Qxb6603549a
