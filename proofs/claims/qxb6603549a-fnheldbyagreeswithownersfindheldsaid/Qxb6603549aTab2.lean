/-
  heldBy (20, 14); newPool (11); holderTable (12).
-/
import Derived.Test.Qxb6603549aTab
namespace Go.Proofs.Qxb6603549a
open Go.RowKit

theorem LockAt.c4 {W : World} {b : Nat} {s : ByteArray} {fo : Option Addr} {fm : Int} {om : Option Nat} (h : LockAt W b s fo fm om) : W.cell? ⟨b, 4, none⟩ = some (.pointer fo) ∧ W.cell? ⟨b, 5, none⟩ = some (.int .i64 fm) ∧ W.cell? ⟨b, 6, none⟩ = some (.map om) := by
  obtain ⟨c, hb, _, _, _, h4, h5, h6⟩ := h
  exact ⟨by simp [World.cell?, hb, h4], by simp [World.cell?, hb, h5], by simp [World.cell?, hb, h6]⟩

/-- The address of an owner that may be none. -/
def oaddr : Option Nat → Option Addr
  | none => none
  | some b => some ⟨b, 0, none⟩

/-- What a lock says of owner b: its first holder f in mode fm, the others ps. -/
def says (f : Option Nat) (fm : Int) (ps : List (Nat × Int)) (b : Nat) : Int × Bool := if f = some b then (fm, true) else ((lkp b ps).getD 0, (lkp b ps).isSome)

set_option maxHeartbeats 400000 in
theorem heldby20 (bl b : Nat) (s : ByteArray) (f : Option Nat) (fm : Int) (om : Option Nat) (ps : List (Nat × Int)) (w : World) (hl : LockAt w bl s (oaddr f) fm om) (hb : OwnB w b) (hf : ∀ c, f = some c → OwnB w c) (hm : MapIs w om ps) (ho : ∀ p ∈ ps, OwnB w p.1) :
    Calls Try.prog 20 #[.pointer (some ⟨bl, 0, none⟩), .pointer (some ⟨b, 0, none⟩)] w fun e w' => e = .returned (.tuple #[.int .i64 (says f fm ps b).1, .bool (says f fm ps b).2]) ∧ w' = w := by
  have hlk := run_lookup_own hm hb ho
  obtain ⟨c4, c5, c6⟩ := hl.c4
  by_cases e : f = some b
  · subst e
    have heq := run_eql_own hb hb
    simp only [decide_true] at heq
    have HE : Hid (says (some b) fm ps b = (fm, true)) := by show _ = _; unfold says; rw [if_pos rfl]
    generalize says (some b) fm ps b = r at *
    have h4 : w.cell? ⟨bl, 4, none⟩ = some (.pointer (some ⟨b, 0, none⟩)) := c4
    clear hlk c4 hm ho hf hl
    go_enter Try.func20, Try.ntmps20
    go_wp2
    go_ret2
    rw [HE.out]
    exact ⟨rfl, rfl⟩
  · have heq : (binOp .eql 32 (.pointer (oaddr f)) (.pointer (some ⟨b, 0, none⟩))).run Try.prog w = .ok (.bool false) w := by
      cases f with
      | none => exact run_eql_none w b
      | some c =>
        have := run_eql_own (hf c rfl) hb
        rw [decide_eq_false (fun h => e (by rw [h]))] at this
        exact this
    have HE : Hid (says f fm ps b = ((lkp b ps).getD 0, (lkp b ps).isSome)) := by show _ = _; unfold says; rw [if_neg e]
    generalize says f fm ps b = r at *
    generalize oaddr f = fo at *
    generalize (lkp b ps).getD 0 = x at *
    generalize (lkp b ps).isSome = y at *
    clear hm ho hf hl e
    go_enter Try.func20, Try.ntmps20
    go_wp2
    go_ret2
    rw [HE.out]
    exact ⟨rfl, rfl⟩

set_option maxHeartbeats 400000 in
theorem heldby14 (bl b : Nat) (s : ByteArray) (f : Option Nat) (fm : Int) (om : Option Nat) (ps : List (Nat × Int)) (w : World) (hl : LockAt w bl s (oaddr f) fm om) (hb : OwnB w b) (hf : ∀ c, f = some c → OwnB w c) (hm : MapIs w om ps) (ho : ∀ p ∈ ps, OwnB w p.1) :
    Calls Try.prog 14 #[.pointer (some ⟨bl, 0, none⟩), .pointer (some ⟨b, 0, none⟩)] w fun e w' => e = .returned (.tuple #[.int .i64 (says f fm ps b).1, .bool (says f fm ps b).2]) ∧ w' = w := by
  go_enter Try.func14, Try.ntmps14
  go_wp2_with fail
  refine (heldby20 bl b s f fm om ps _ hl hb hf hm ho).mono ?_
  rintro e w1 ⟨rfl, rfl⟩
  go_wp2_with fail
  go_ret2
  exact ⟨rfl, rfl⟩

/-- The pool: block bp is a row of k pointers, to the owners at bp + 1, bp + 2, .. -/
structure Pool (W : World) (bp k : Nat) : Prop where
  row : W.rowIs bp 32 k (fun i => .pointer (some ⟨bp + 1 + i, 0, none⟩))
  own : ∀ i, i < k → OwnAt W (bp + 1 + i) (.slice none 0 0)

set_option maxHeartbeats 400000 in
theorem pool11 (k : Nat) (w : World) (hk : k ≤ 4097) :
    Calls Try.prog 11 #[.int .i64 (k : Int)] w fun e w' => e = .returned (.slice (some ⟨w.heap.size, 0, none⟩) k k) ∧ Pool w' w.heap.size k ∧ Below w.heap.size w w' := by
  have hmk := run_make_row' (P := Try.prog) 30 32 (.pointer none) 8 Try.underlying30 info32 rfl .i64 .i64 k (by omega) (by omega)
  have hz := run_zero58
  go_enter Try.func11, Try.ntmps11
  go_wp2_with fail
  clear hmk
  go_loopg [4] k (fun g i wr => ∃ (j : Nat) (f : Nat → Value), j ≤ k ∧ g = k - j ∧ i = .int .i64 j ∧ wr.rowIs w.heap.size 32 k f ∧ Hid (∀ x, x < j → f x = .pointer (some ⟨w.heap.size + 1 + x, 0, none⟩)) ∧ (∀ x, x < j → OwnAt wr (w.heap.size + 1 + x) (.slice none 0 0)) ∧ Below w.heap.size w wr ∧ wr.heap.size = w.heap.size + 1 + j)
  case atStart => exact ⟨0, _, Nat.zero_le _, rfl, rfl, World.rowIs_made w (.pointer none) k 32, fun x hx => by omega, fun x hx => by omega, (Below.refl _ _).alloc (Nat.le_refl _) _, by simp⟩
  case round =>
    obtain ⟨j, f, hj, rfl, rfl, hrow, hf, hown, hbel, hsz⟩ := hrel
    by_cases hlt : j < k
    · have hjz : (j : Int) < (k : Int) := by omega
      have hrow1 := hrow.alloc (.cells z58 58)
      have dj := hrow1.cell hlt
      have fj := hrow1.frozen j
      have ho1 := own_new wr
      rw [hsz] at ho1
      have hown1 : Hid (∀ x, x < j + 1 → OwnAt ((wr.alloc (.cells z58 58)).setCell ⟨w.heap.size, j, none⟩ (.pointer (some ⟨w.heap.size + 1 + j, 0, none⟩))) (w.heap.size + 1 + x) (.slice none 0 0)) := fun x hx => by
        refine OwnAt.of_block (W := wr.alloc (.cells z58 58)) ?_ (Below.heap_setCell _ _ _ _ (by show _ ≠ w.heap.size; omega))
        by_cases e : x = j
        · subst e; exact ho1
        · exact (hown x (by omega)).of_block (Deep.blk_alloc_lt _ _ _ (hown x (by omega)).lt)
      clear hown ho1
      go_wp2_with fail
      go_roundg (k - (j + 1))
      case measure => omega
      case rel =>
        refine ⟨j + 1, _, by omega, rfl, by go_num, hrow1.set j _, fun x hx => ?_, hown1.out, (hbel.alloc (by omega) _).setCell (Nat.le_refl _) _, by simp; omega⟩
        show (if x = j then _ else f x) = _
        by_cases e : x = j
        · rw [if_pos e, e]
        · rw [if_neg e]; exact hf.out x (by omega)
    · clear hz
      go_wp2_with fail
      go_ret
      exact ⟨rfl, ⟨hrow.congr fun i hi => hf.out i (by omega), fun i hi => hown i (by omega)⟩, hbel⟩
end Go.Proofs.Qxb6603549a
