/-
  holderTable (12).
-/
import Derived.Test.Qxb6603549aTab2
namespace Go.Proofs.Qxb6603549a
open Go.RowKit

/-- A slice of ints as the walks know it. -/
def IntsAt (w : World) (B : Nat) (a : Option Addr) (len : Nat) (zs : Nat → Int) : Prop :=
  0 < len → ∃ b off, a = some ⟨b, off, none⟩ ∧ b < B ∧ ∀ i, i < len → w.cell? ⟨b, off + i, none⟩ = some (.int .i64 (zs i))

theorem IntsAt.keep {w w' : World} {B B' : Nat} {a : Option Addr} {len : Nat} {zs : Nat → Int} (h : IntsAt w B a len zs) (hb : Below B w w') (hB : B ≤ B') : IntsAt w' B' a len zs := by
  intro hl
  obtain ⟨b, off, rfl, h1, h2⟩ := h hl
  exact ⟨b, off, rfl, by omega, fun i hi => (hb.cell (p := ⟨b, off + i, none⟩) h1).trans (h2 i hi)⟩

theorem Pool.lt {W : World} {bp k : Nat} (h : Pool W bp k) {i : Nat} (hi : i < k) : bp + 1 + i < W.heap.size := (h.own i hi).lt

theorem Pool.keep {W W' : World} {bp k B : Nat} (h : Pool W bp k) (hk : 0 < k) (hb : Below B W W') (hB : bp + k < B) : Pool W' bp k :=
  ⟨h.row.of_block (hb.block bp (by omega)), fun i hi => (h.own i hi).of_block (hb.block _ (by omega))⟩

/-- The holders but the first, after k rounds. -/
def psTo (o0 fi : Nat) (md : Nat → Int) : Nat → List (Nat × Int)
  | 0 => []
  | k + 1 => psTo o0 fi md k ++ if k = fi then [] else [(o0 + k, md k)]

theorem lkp_append (b : Nat) (l r : List (Nat × Int)) : lkp b (l ++ r) = match lkp b l with | some m => some m | none => lkp b r := by
  induction l with
  | nil => rfl
  | cons p l ih =>
    simp only [List.cons_append, lkp]
    by_cases e : b = p.1
    · simp [e]
    · simp [e, ih]

theorem lkp_psTo (o0 fi : Nat) (md : Nat → Int) (k i : Nat) : lkp (o0 + i) (psTo o0 fi md k) = if i < k ∧ i ≠ fi then some (md i) else none := by
  induction k with
  | zero => simp [psTo, lkp]
  | succ k ih =>
    unfold psTo
    rw [lkp_append, ih]
    by_cases e : k = fi
    · rw [if_pos e]
      by_cases h : i < k ∧ i ≠ fi
      · rw [if_pos h, if_pos ⟨by omega, h.2⟩]
      · rw [if_neg h, if_neg (by omega)]; rfl
    · rw [if_neg e]
      by_cases h : i < k ∧ i ≠ fi
      · rw [if_pos h, if_pos ⟨by omega, h.2⟩]
      · rw [if_neg h]
        simp only [lkp]
        by_cases e2 : i = k
        · subst e2; rw [if_pos rfl, if_pos ⟨by omega, e⟩]
        · rw [if_neg (by omega), if_neg (by omega)]

theorem mem_psTo {o0 fi : Nat} {md : Nat → Int} {k : Nat} {p : Nat × Int} (h : p ∈ psTo o0 fi md k) : ∃ i, i < k ∧ p.1 = o0 + i := by
  induction k with
  | zero => simp [psTo] at h
  | succ k ih =>
    unfold psTo at h
    rcases List.mem_append.1 h with h | h
    · obtain ⟨i, h1, h2⟩ := ih h
      exact ⟨i, by omega, h2⟩
    · by_cases e : k = fi
      · simp [e] at h
      · simp [e] at h
        exact ⟨k, by omega, by rw [h]⟩

theorem setB_at {W : World} {b : Nat} (hb : b < W.heap.size) (o : Obj) : (setB W b o).heap[b]? = some o := by simp [setB, hb]

theorem below_setB {B b : Nat} {w W : World} (h : Below B w W) (hb : B ≤ b) (o : Obj) : Below B w (setB W b o) :=
  h.trans ⟨rfl, rfl, rfl, by simp [setB], fun k hk => by simp only [setB]; rw [Array.getElem?_setIfInBounds, if_neg (by omega)]⟩

theorem reads_push {es : Array MapEntry} {ps : List (Nat × Int)} (h : Reads es.toList ps) (b : Nat) (m : Int) (clock : Nat) : Reads (es.push { key := .pointer (some ⟨b, 0, none⟩), val := .int .i64 m, born := clock }).toList (ps ++ [(b, m)]) := by
  unfold Reads at *
  simp [h, optr]

set_option maxHeartbeats 400000 in
theorem table12_none (bp k : Nat) (a : Option Addr) (cap : Nat) (fi : Int) (w : World) :
    Calls Try.prog 12 #[.slice (some ⟨bp, 0, none⟩) k k, .slice a 0 cap, .int .i64 fi] w fun e w' => e = .returned (.tuple #[.pointer none, .int .i64 0, .map none]) ∧ w' = w := by
  go_enter Try.func12, Try.ntmps12
  go_wp2
  go_ret3
  exact ⟨rfl, rfl⟩

set_option maxRecDepth 100000 in
set_option maxHeartbeats 800000 in
theorem table12 (bp n fi : Nat) (a : Option Addr) (cap : Nat) (md : Nat → Int) (w : World) (hp : Pool w bp (n + 1)) (hi : IntsAt w w.heap.size a n md) (hf : fi < n) (hn : n ≤ 4096) :
    Calls Try.prog 12 #[.slice (some ⟨bp, 0, none⟩) (n + 1) (n + 1), .slice a n cap, .int .i64 (fi : Int)] w fun e w' => ∃ om, e = .returned (.tuple #[.pointer (some ⟨bp + 1 + fi, 0, none⟩), .int .i64 (md fi), .map om]) ∧ MapIs w' om (psTo (bp + 1) fi md n) ∧ Below w.heap.size w w' := by
  have hbp : bp + (n + 1) < w.heap.size := by have := hp.lt (i := n) (by omega); omega
  obtain ⟨b, off, rfl, hb, hc⟩ := hi (by omega)
  have pf := hp.row.cell (i := fi) (by omega)
  have mf := hc fi hf
  have fz : (fi : Int) < (n : Int) := by omega
  have fz1 : (fi : Int) < (n : Int) + 1 := by omega
  have n0 : ((n : Int) == 0) = false := by simp; omega
  by_cases h1 : n ≤ 1
  · have HP : Hid (psTo (bp + 1) fi md n = []) := by
      have e1 : n = 1 := by omega
      have e2 : fi = 0 := by omega
      subst e1 e2
      rfl
    clear hi hc hp
    go_enter Try.func12, Try.ntmps12
    go_wp2_with fail
    go_quiet (fail)
    go_wp2_with fail
    go_ret3
    exact ⟨none, rfl, .inl ⟨rfl, HP.out⟩, ⟨rfl, rfl, rfl, Nat.le_refl _, fun _ _ => rfl⟩⟩
  · have hmm := @run_makeMap Try.prog
    have h1z : (1 : Int) < (n : Int) := by omega
    clear hi
    go_enter Try.func12, Try.ntmps12
    go_wp2_with fail
    clear hmm
    go_loopg [11] n (fun g i wr => ∃ (k : Nat) (es : Array MapEntry) (clock : Nat), k ≤ n ∧ g = n - k ∧ i = .int .i64 k ∧ wr.heap[w.heap.size]? = some (.map es clock) ∧ Hid (Reads es.toList (psTo (bp + 1) fi md k)) ∧ Below w.heap.size w wr)
    case atStart => exact ⟨0, #[], 0, Nat.zero_le _, rfl, rfl, Deep.blk_alloc_new _ _, rfl, (Below.refl _ _).alloc (Nat.le_refl _) _⟩
    case round =>
      obtain ⟨k, es, clock, hk, rfl, rfl, hh, hr, hbel⟩ := hrel
      have hp1 := hp.keep (by omega) hbel hbp
      have hsz : w.heap.size < wr.heap.size := (Array.getElem?_eq_some_iff.1 hh).1
      by_cases hlt : k < n
      · have hkz : (k : Int) < (n : Int) := by omega
        have hkz1 : (k : Int) < (n : Int) + 1 := by omega
        have pk := hp1.row.cell (i := k) (by omega)
        have mk := (hbel.cell (p := ⟨b, off + k, none⟩) hb).trans (hc k hlt)
        by_cases e : k = fi
        · have hne : ((k : Int) != (fi : Int)) = false := by simp [e]
          have HE : Hid (k = fi) := e
          clear e pf mf hc
          go_wp2_with fail
          go_roundg (n - (k + 1))
          case measure => omega
          case rel =>
            refine ⟨k + 1, es, clock, by omega, rfl, by go_num, hh, ?_, hbel⟩
            show Reads _ _
            unfold psTo
            rw [if_pos HE.out, List.append_nil]
            exact hr.out
        · have hne : ((k : Int) != (fi : Int)) = true := by simp; omega
          have ho : ∀ p ∈ psTo (bp + 1) fi md k, OwnB wr.drew p.1 := fun p hp2 => by
            obtain ⟨i, h2, h3⟩ := mem_psTo hp2
            rw [h3]
            exact (hp1.own i (by omega)).b
          have hmu := run_mapUpdate_own (W := wr.drew) hh hr.out (md k) (b := bp + 1 + k) (hp1.own k (by omega)).b ho (by rw [lkp_psTo, if_neg (by omega)])
          have HR : Hid (Reads (es.push { key := .pointer (some ⟨bp + 1 + k, 0, none⟩), val := .int .i64 (md k), born := clock }).toList (psTo (bp + 1) fi md (k + 1))) := by
            show Reads _ _
            unfold psTo
            rw [if_neg e]
            exact reads_push hr.out _ _ _
          have HA : Hid ((setB wr.drew w.heap.size (.map (es.push { key := .pointer (some ⟨bp + 1 + k, 0, none⟩), val := .int .i64 (md k), born := clock }) (clock + 1))).heap[w.heap.size]? = some (.map (es.push { key := .pointer (some ⟨bp + 1 + k, 0, none⟩), val := .int .i64 (md k), born := clock }) (clock + 1))) := setB_at hsz _
          have HBL : Hid (Below w.heap.size w (setB wr.drew w.heap.size (.map (es.push { key := .pointer (some ⟨bp + 1 + k, 0, none⟩), val := .int .i64 (md k), born := clock }) (clock + 1)))) := below_setB hbel.drew (Nat.le_refl _) _
          clear ho e pf mf hc hr hp1
          go_wp2_with fail
          go_region
          go_wp2_with fail
          go_roundg (n - (k + 1))
          case measure => omega
          case rel => exact ⟨k + 1, _, _, by omega, rfl, by go_num, HA.out, HR.out, HBL.out⟩
      · have hrn : Hid (Reads es.toList (psTo (bp + 1) fi md n)) := by
          have e : k = n := by omega
          rw [← e]; exact hr
        have pf2 := hp1.row.cell (i := fi) (by omega)
        have mf2 := (hbel.cell (p := ⟨b, off + fi, none⟩) hb).trans (hc fi hf)
        clear pf mf hc hr
        go_wp2_with fail
        go_quiet (fail)
        go_wp2_with fail
        go_ret3
        exact ⟨some w.heap.size, rfl, .inr ⟨_, es, clock, rfl, hh, hrn.out⟩, hbel.trans ⟨rfl, rfl, rfl, Nat.le_refl _, fun _ _ => rfl⟩⟩
end Go.Proofs.Qxb6603549a
