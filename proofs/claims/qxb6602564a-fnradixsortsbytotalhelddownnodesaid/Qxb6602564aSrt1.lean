/-
  keyBefore (47).
-/
import Derived.Test.Qxb6602564aRw2
namespace Go.Proofs.Qxb6602564a
open Go.RowKit

/-- Go's keyBefore on two keys. -/
def kbef (x y : Pl.Key) : Bool := decide (x.t < y.t ∨ x.t = y.t ∧ (y.h < x.h ∨ x.h = y.h ∧ x.n < y.n))

theorem kbef_strict : Pl.Strict kbef := by
  refine ⟨fun a b h => ?_, fun a b c h1 h2 => ?_⟩
  · unfold kbef at *
    simp only [decide_eq_true_eq, decide_eq_false_iff_not] at *
    omega
  · unfold kbef at *
    simp only [decide_eq_false_iff_not] at *
    omega

theorem lex_of_not_before {x y : Pl.Key} (h : kbef y x = false) : Pl.lexLe 3 x y := by
  unfold kbef at h
  simp only [decide_eq_false_iff_not] at h
  simp only [Pl.lexLe, Pl.fld]
  simp
  omega

set_option maxRecDepth 100000 in
set_option maxHeartbeats 400000 in
theorem before47 (a0 : Option Addr) (n c0 : Nat) (ts : Nat → Int) (a1 : Option Addr) (c1 : Nat) (hs : Nat → Int) (a2 : Option Addr) (c2 : Nat) (ns : Nat → Int) (i j : Nat) (w : World)
    (h0 : IntsAt w w.heap.size a0 n ts) (h1 : IntsAt w w.heap.size a1 n hs) (h2 : IntsAt w w.heap.size a2 n ns) (hi : i < n) (hj : j < n) :
    Calls Try.prog 47 #[.slice a0 n c0, .slice a1 n c1, .slice a2 n c2, .int .i64 (i : Int), .int .i64 (j : Int)] w fun e w' => e = .returned (.bool (kbef ⟨ts i, hs i, ns i⟩ ⟨ts j, hs j, ns j⟩)) ∧ ∃ q, w' = w.drewN q := by
  obtain ⟨b0, o0, rfl, _, k0⟩ := h0 (by omega)
  obtain ⟨b1, o1, rfl, _, k1⟩ := h1 (by omega)
  obtain ⟨b2, o2, rfl, _, k2⟩ := h2 (by omega)
  have ti := k0 i hi
  have tj := k0 j hj
  have hii := k1 i hi
  have hjj := k1 j hj
  have ni := k2 i hi
  have nj := k2 j hj
  have iz : (i : Int) < (n : Int) := by omega
  have jz : (j : Int) < (n : Int) := by omega
  clear h0 h1 h2 k0 k1 k2
  generalize ts i = x1 at *
  generalize ts j = y1 at *
  generalize hs i = x2 at *
  generalize hs j = y2 at *
  generalize ns i = x3 at *
  generalize ns j = y3 at *
  by_cases e1 : x1 = y1
  · by_cases e2 : x2 = y2
    · have g1 : (x1 != y1) = false := by simp [e1]
      have g2 : (x2 != y2) = false := by simp [e2]
      have HK : Hid (decide (x3 < y3) = kbef ⟨x1, x2, x3⟩ ⟨y1, y2, y3⟩) := by
        show _ = _
        unfold kbef
        rw [decide_eq_decide]
        show x3 < y3 ↔ (x1 < y1 ∨ x1 = y1 ∧ (y2 < x2 ∨ x2 = y2 ∧ x3 < y3))
        omega
      clear e1 e2
      generalize kbef ⟨x1, x2, x3⟩ ⟨y1, y2, y3⟩ = r at *
      go_enter Try.func47, Try.ntmps47
      go_wp2_with fail
      go_quiet (fail)
      go_wp2_with fail
      go_quiet (fail)
      go_wp2_with fail
      go_quiet (fail)
      go_wp2_with fail
      go_ret
      exact ⟨by rw [← HK.out]; rfl, _, by simp only [World.drewN_drewN]; rfl⟩
    · have g1 : (x1 != y1) = false := by simp [e1]
      have g2 : (x2 != y2) = true := by simp [e2]
      have HK : Hid (decide (y2 < x2) = kbef ⟨x1, x2, x3⟩ ⟨y1, y2, y3⟩) := by
        show _ = _
        unfold kbef
        rw [decide_eq_decide]
        show y2 < x2 ↔ (x1 < y1 ∨ x1 = y1 ∧ (y2 < x2 ∨ x2 = y2 ∧ x3 < y3))
        omega
      clear e1 e2
      generalize kbef ⟨x1, x2, x3⟩ ⟨y1, y2, y3⟩ = r at *
      go_enter Try.func47, Try.ntmps47
      go_wp2_with fail
      go_quiet (fail)
      go_wp2_with fail
      go_quiet (fail)
      go_wp2_with fail
      go_quiet (fail)
      go_wp2_with fail
      go_ret
      exact ⟨by rw [← HK.out]; rfl, _, by simp only [World.drewN_drewN]; rfl⟩
  · have g1 : (x1 != y1) = true := by simp [e1]
    have HK : Hid (decide (x1 < y1) = kbef ⟨x1, x2, x3⟩ ⟨y1, y2, y3⟩) := by
      show _ = _
      unfold kbef
      rw [decide_eq_decide]
      show x1 < y1 ↔ (x1 < y1 ∨ x1 = y1 ∧ (y2 < x2 ∨ x2 = y2 ∧ x3 < y3))
      omega
    clear e1
    generalize kbef ⟨x1, x2, x3⟩ ⟨y1, y2, y3⟩ = r at *
    go_enter Try.func47, Try.ntmps47
    go_wp2_with fail
    go_quiet (fail)
    go_wp2_with fail
    go_quiet (fail)
    go_wp2_with fail
    go_ret
    exact ⟨by rw [← HK.out]; rfl, _, by simp only [World.drewN_drewN]; rfl⟩
end Go.Proofs.Qxb6602564a
