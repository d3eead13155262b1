/-
  Small tools for this seat's walks: a region that draws its order, whose operations read and whose callees make memory of their own: ONE WALK, over a family of worlds that the prover names.
-/
import Derived.Test.Qxb6603549aProg
import Derived.WalkKit
import Derived.WalkSpells
import Derived.WalkLawsBesides
import Derived.Deep.LoopGhost
import Derived.Deep.OwnRows
import Derived.Deep.QuietTactic
import Derived.BigQuiet
import Derived.Deep.DeepCutAuto
namespace Go.Proofs.Qxb6603549a
open Go.RowKit

/-- A world of the family. -/
structure Among (Good : World → Prop) where
  val : World
  ok : Good val

theorem wp_region_quiet_in {P : Program} {id : Nat} {Q : Exit → Act → World → Prop} {a : Act} {w : World} {l : List Oper} (Good : World → Prop) (hm : P.follows .mixedOrders = true) (hB : Region.lexB .any l.toArray = true) (hC : Good w.drew)
    (h : Nonempty (Among Good) → wpQuiet P l.toArray (fun w' => ∃ x : Among Good, w' = x.val) (fun a' => ∀ w', (∃ x : Among Good, w' = x.val) → Q .normal a' w') l a) : (Code.region id l.toArray true).wp P Q a w :=
  wp_region_quiet (C := fun w' => ∃ x : Among Good, w' = x.val) hm hB ⟨⟨_, hC⟩, rfl⟩ (by simpa using h ⟨⟨_, hC⟩⟩)

/-- The family 'nothing that was there in W0 has turned': a callee that leaves 'Below' stays in it. -/
theorem Calls.in_below {P : Program} {f : FuncId} {args : Array Value} {W0 : World} {x : Among (fun W => Below W0.heap.size W0 W)} {v : Value} (h : Calls P f args x.val fun e w' => e = .returned v ∧ Below x.val.heap.size x.val w') :
    Calls P f args x.val fun e w' => e = .returned v ∧ ∃ y : Among (fun W => Below W0.heap.size W0 W), w' = y.val :=
  h.mono fun _ w' ⟨he, hw⟩ => ⟨he, ⟨w', x.ok.trans (hw.mono x.ok.size)⟩, rfl⟩

theorem below_drew (w : World) : Below w.heap.size w w.drew := ⟨rfl, rfl, rfl, Nat.le_refl _, fun _ _ => rfl⟩

/-- A name's resource as a value. -/
def nres (s : ByteArray) : Value := .agg #[.string s, .string ByteArray.empty, .int .u8 0]

theorem bytes_ext {a b : ByteArray} (h : a.toList = b.toList) : a = b := by
  rw [ByteArray.toList_eq, ByteArray.toList_eq] at h
  cases a; cases b
  simp only [ByteArray.mk.injEq]
  exact Array.toList_inj.1 h

set_option maxHeartbeats 400000 in
theorem name8 (s : ByteArray) (w : World) :
    Calls Try.prog 8 #[.string s] w fun e w' => e = .returned (.agg #[.string s, .string ByteArray.empty, .int .u8 0]) ∧ Below w.heap.size w w' := by
  go_enter Try.func8, Try.ntmps8
  go_wp2
  exact bodyPost_ret (v := .agg #[.string s, .string ByteArray.empty, .int .u8 0]) (by simp [results, Try.results8, go_sem]; rfl) rfl ⟨rfl, (Below.refl _ _).alloc (Nat.le_refl _) _⟩

set_option maxHeartbeats 400000 in
theorem is19 (a b : ByteArray) (w : World) :
    Calls Try.prog 19 #[.agg #[.string a, .string ByteArray.empty, .int .u8 0], .agg #[.string b, .string ByteArray.empty, .int .u8 0]] w fun e w' => e = .returned (.bool (a.toList == b.toList)) ∧ Below w.heap.size w w' := by
  cases h : (a.toList == b.toList) with
  | true =>
    go_enter Try.func19, Try.ntmps19
    go_wp2
    go_ret
    exact ⟨rfl, ((Below.refl _ _).alloc (Nat.le_refl _) _).alloc (by simp) _⟩
  | false =>
    go_enter Try.func19, Try.ntmps19
    go_wp2
    go_ret
    exact ⟨rfl, ((Below.refl _ _).alloc (Nat.le_refl _) _).alloc (by simp) _⟩

set_option maxHeartbeats 400000 in
theorem zis9 (a b : ByteArray) (w : World) :
    Calls Try.prog 9 #[.agg #[.string a, .string ByteArray.empty, .int .u8 0], .agg #[.string b, .string ByteArray.empty, .int .u8 0]] w fun e w' => e = .returned (.bool (a.toList == b.toList)) ∧ Below w.heap.size w w' := by
  go_enter Try.func9, Try.ntmps9
  go_wp2_with fail
  refine (is19 a b _).mono ?_
  rintro e w1 ⟨rfl, hb⟩
  go_wp2_with fail
  go_ret
  exact ⟨rfl, (((Below.refl _ _).alloc (Nat.le_refl _) _).alloc (by simp) _).trans (hb.mono (by simp; omega))⟩
end Go.Proofs.Qxb6603549a
