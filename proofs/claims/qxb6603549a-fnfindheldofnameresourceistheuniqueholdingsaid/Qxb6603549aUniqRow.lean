/-
  'Rows.FnFindHeldOfNameResourceIsTheUniqueHoldingSaid': the row.
-/
import Derived.Test.Qxb6603549aRows
import Derived.Test.Qxb6603549aHead
import Derived.Test.Qxb6603549aUniq
import Derived.ProofKit
import Derived.OpenShut
import Derived.ShutString
import Derived.ChangeOld
import Derived.Below
import Derived.Deep.SlicePairs
namespace Go.Proofs.Qxb6603549a.fnFindHeldUnique
open Go.ChangeShapes Go.WideShapes Go.ChangeAt Go.RowKit
open Go.ChangeMaps (open_string shut_string)
set_option linter.unusedVariables false

theorem own : ownKnob Try.prog.godebug = none := by kernel_rfl
theorem laidOut : laidOutB Try.prog = true := by kernel_rfl

def strOf (v : Value) : ByteArray := match v with | .string s => s | _ => ByteArray.empty
def numOf (v : Value) : Int := match v with | .int _ z => z | _ => 0

theorem open_names {H : Type} {enc : TypeId × Value → H} {W : World} {a0 : Option Addr} {len0 cap0 : Nat} {d0 : DataW H} {p0 : List MemPlace} (h0 : DataW.Trod enc Try.prog W 0 (fun _ => true) true 45 (.slice a0 len0 cap0) d0 p0) :
    ∃ (nm : Nat → ByteArray) (md : Nat → Int), NamesAt W W.heap.size a0 len0 nm md ∧ len0 ≤ maxLen ∧ ∀ i, i < len0 → (nm i).size ≤ maxLen := by
  obtain ⟨fuel, hf⟩ := h0
  rcases Deep.open_slice_pairs Try.underlying45 Try.underlying48 (by kernel_rfl) rfl rfl (by kernel_rfl) (by kernel_rfl) hf with ⟨hcs, _⟩ | ⟨x, l, c, m, n, V0, V1, D0, D1, P0, P1, hcs, _, hl, hm, hmm, _, hcell⟩
  · simp [Value.cells] at hcs
    obtain ⟨rfl, rfl, rfl⟩ := hcs
    exact ⟨fun _ => ByteArray.empty, fun _ => 0, fun h => absurd h (by omega), Nat.zero_le _, fun i hi => absurd hi (by omega)⟩
  · simp [Value.cells] at hcs
    obtain ⟨rfl, rfl, rfl⟩ := hcs
    simp only [if_true] at hmm
    have each : ∀ i, i < len0 → W.cell? (x.add (i * 2)) = some (.string (strOf (V0 i))) ∧ W.cell? (x.add (i * 2 + 1)) = some (.int .i64 (numOf (V1 i))) ∧ (strOf (V0 i)).size ≤ maxLen := by
      intro i hi
      obtain ⟨c0, c1, t0, t1⟩ := hcell i (by omega)
      obtain ⟨s, e0, _, hs⟩ := DataW.trod_string Try.underlying9 t0
      obtain ⟨z, e1, _, _⟩ := DataW.trod_int Try.underlying3 t1
      simp only [List.cons.injEq, and_true] at e0 e1
      rw [c0, c1, e0, e1]
      exact ⟨rfl, rfl, hs⟩
    refine ⟨fun i => strOf (V0 i), fun i => numOf (V1 i), fun hpos => ?_, by omega, fun i hi => (each i hi).2.2⟩
    obtain ⟨b, off, spot⟩ := x
    have c0 := (each 0 hpos).1
    have hs : spot = none := by simpa [Addr.add] using World.cell?_spot c0
    subst hs
    refine ⟨b, off, rfl, by simpa [Addr.add] using World.block_lt_of_cell? _ _ c0, fun i hi => ?_⟩
    have h1 := (each i hi).1
    have h2 := (each i hi).2.1
    rw [Addr.add_lit] at h1 h2
    exact ⟨h1, by rw [Nat.add_assoc]; exact h2⟩

set_option maxRecDepth 100000 in
theorem lifted (os : Os) (started : os.Started) (H : Type) (enc : TypeId × Value → H) :
    ReturnsInHanded {} Try.checked os 6 .any (Rows.fnFindHeldOfNameResourceIsTheUniqueHoldingSpec.pre6 enc Try.prog Try.f6 Rows.fnFindHeldOfNameResourceIsTheUniqueHoldingRow.domain false) (Rows.fnFindHeldOfNameResourceIsTheUniqueHoldingSpec.post enc Try.prog Try.f6 false true false false) := by
  refine returnsInHanded_of_change (C := Try.checked) own started (by kernel_rfl) Try.func6
    (ChangeSpec.witness6 (enc := enc) (C := Try.checked) false ⟨#[], #[.slice none 0 0, .string ByteArray.empty, .int .i64 0], []⟩ 8 (by kernel_rfl) (by kernel_rfl) (by kernel_rfl) (by kernel_rfl)) ?_
  intro W base args ds gs before hval0 hW hcnd _
  have hval : ∀ (j : Nat) t v, Try.f6.params[j]? = some t → args[j]? = some v → Value.okWide Try.prog W .any base t v := hval0
  have hW' := hW
  obtain ⟨p, q, hA0, hV, rfl, hfz, hnd⟩ := hW
  have hA : DataW.TrodAll enc Try.prog W 0 (fun _ => true) true Try.f6.params.toList args.toList ds p := hA0
  rw [Try.params6] at hA hval
  obtain ⟨v0, vs0, d0, ds0, p0, q0, hargs, rfl, rfl, h0, r0⟩ := trodAll_cons hA
  obtain ⟨v1, vs1, d1, ds1, p1, q1, rfl, rfl, rfl, h1, r1⟩ := trodAll_cons r0
  obtain ⟨v2, vs2, d2, ds2, p2, q2, rfl, rfl, rfl, h2, r2⟩ := trodAll_cons r1
  obtain ⟨rfl, rfl, rfl⟩ := trodAll_nil r2
  obtain rfl : args = #[v0, v1, v2] := by cases args; simp_all
  obtain ⟨rfl, rfl⟩ := trodVars_none hV
  obtain ⟨a0, len0, cap0, rfl⟩ := okWide_slice Try.underlying45 (hval 0 45 v0 rfl rfl)
  have k0 := h0
  have lt0 : ∀ x ∈ p0, x.block < W.heap.size := by obtain ⟨m, hm⟩ := k0; exact DataW.trod_lt m _ _ _ hm
  obtain ⟨nm, md, n0, l0, s0⟩ := open_names h0
  obtain ⟨a1, rfl, rfl, rfl, w1⟩ := open_string Try.underlying9 (hval 1 9 v1 rfl rfl) h1
  obtain ⟨a2, rfl, rfl, rfl, w2⟩ := open_int Try.underlying3 (hval 2 3 v2 rfl rfl) h2
  clear hA0 hval0
  refine (law6 a0 len0 cap0 nm md a1 a2 W n0 l0 s0 w1).mono fun e W' ⟨he, bel⟩ => ?_
  subst he
  exact ⟨_, rfl, _, _, _, [], _, [], hW', trodAll_mk1 (shut_bool Try.underlying4 _), (trodAll_cons_mk (Below.trod laidOut (by kernel_rfl) (of_decide_eq_true (by kernel_rfl)) k0 bel lt0) (trodAll_cons_mk (shut_string Try.underlying9 w1) (trodAll_cons_mk (shut_int Try.underlying3 w2) trodAll_mk0))), rfl, bel.frame _, fun h => by cases h⟩

set_option maxRecDepth 100000 in
theorem closed : joinedFacts Try.prog 6 Try.f6 Rows.fnFindHeldOfNameResourceIsTheUniqueHoldingSpec Rows.fnFindHeldOfNameResourceIsTheUniqueHoldingRow = true := by
  unfold joinedFacts
  rw [Hd.mayE, Hd.liftsF, Hd.makeF]
  show _ = true
  kernel_rfl

theorem over : Rows.fnFindHeldOfNameResourceIsTheUniqueHoldingRow.holds Try.pinned (OpenSpec.ofChange Rows.fnFindHeldOfNameResourceIsTheUniqueHoldingSpec) :=
  OpenClaim.holds_of_wide 6 Try.f6 rfl rfl rfl rfl rfl rfl rfl ⟨rfl, rfl, rfl, rfl, rfl⟩ rfl rfl rfl rfl rfl (by kernel_rfl) Try.func6 closed
    (of_decide_eq_true (by kernel_rfl)) (by unfold Func.isWrapper; first | (rw [if_pos (by decide +kernel)]; kernel_rfl) | (rw [if_neg (by decide +kernel)]; exact ⟨rfl, rfl⟩))
    (fun os started H enc _ => lifted os started H enc)

/-- THE STATEMENT -/
theorem proved : Rows.FnFindHeldOfNameResourceIsTheUniqueHoldingSaid := over
#print axioms proved
end Go.Proofs.Qxb6603549a.fnFindHeldUnique
