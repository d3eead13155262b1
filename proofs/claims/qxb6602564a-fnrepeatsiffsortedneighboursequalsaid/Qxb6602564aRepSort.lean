/-
  'Rows.FnRepeatsIffSortedNeighboursEqualSaid': the law's walk out of its callees' contracts, and the row.
-/
import Derived.Test.Qxb6602564aRows
import Derived.Test.Qxb6602564aHead
import Derived.Test.Qxb6602564aStr4
import Derived.ProofKit
import Derived.OpenShut
import Derived.ShutString
import Derived.ChangeOld
import Derived.SliceStrings
namespace Go.Proofs.Qxb6602564a.fnRepeatsIff
open Go.ChangeShapes Go.WideShapes Go.ChangeAt Go.RowKit
set_option linter.unusedVariables false

theorem own : ownKnob Try.prog.godebug = none := by kernel_rfl
theorem laidOut : laidOutB Try.prog = true := by kernel_rfl

set_option maxHeartbeats 400000 in
theorem walk (a : Option Addr) (len cap : Nat) (ss : Nat → ByteArray) (w : World) (hs : StrsAt w w.heap.size a len ss) (hlen : len ≤ maxLen) (hsz : ∀ i, i < len → (ss i).size ≤ maxLen) :
    Calls Try.prog 3 #[.slice a len cap] w fun e w' => e = .returned (.bool true) ∧ Below w.heap.size w w' := by
  go_enter Try.func3, Try.ntmps3
  go_wp2_with fail
  refine (zz12 a len cap ss _ hs hlen hsz).mono ?_
  rintro e w1 ⟨rfl | rfl, rfl⟩
  · go_wp2_with fail
    go_ret
    exact ⟨rfl, Below.refl _ _⟩
  go_wp2_with fail
  refine (fit13 a len cap ss _ hs hlen hsz).mono ?_
  rintro e w2 ⟨rfl | ⟨rfl, hl⟩, rfl⟩
  · go_wp2_with fail
    go_ret
    exact ⟨rfl, Below.refl _ _⟩
  go_wp2_with fail
  refine (clone14 a len cap ss _ hs (by omega)).mono ?_
  rintro e w3 ⟨a', c', rfl, hc1, hc2, hs3, hb3⟩
  go_wp2_with fail
  refine (rep15 a' len c' ss _ hs3 (by omega) hc1 hc2).mono ?_
  rintro e w4 ⟨r1, rfl, hr1, rfl⟩
  have H1 : Hid (r1 = true ↔ Pl.Rep ss len) := hr1
  clear hr1
  go_wp2_with fail
  refine (bysort16 a' len c' ss _ hs3 hl).mono ?_
  rintro e w5 ⟨r2, rfl, hr2, hb5⟩
  have er : r2 = r1 := Bool.eq_iff_iff.2 (hr2.trans H1.out.symm)
  subst er
  clear H1 hr2
  go_wp2_with fail
  go_ret
  exact ⟨by simp, hb3.trans (hb5.mono hb3.size)⟩

set_option maxRecDepth 100000 in
theorem lifted (os : Os) (started : os.Started) (H : Type) (enc : TypeId × Value → H) :
    ReturnsInHanded {} Try.checked os 3 .any (Rows.fnRepeatsIffSortedNeighboursEqualSpec.pre6 enc Try.prog Try.f3 Rows.fnRepeatsIffSortedNeighboursEqualRow.domain false) (Rows.fnRepeatsIffSortedNeighboursEqualSpec.post enc Try.prog Try.f3 false true false false) := by
  refine returnsInHanded_of_change (C := Try.checked) own started (by kernel_rfl) Try.func3
    (ChangeSpec.witness6 (enc := enc) (C := Try.checked) false ⟨#[], #[.slice none 0 0], []⟩ 8 (by kernel_rfl) (by kernel_rfl) (by kernel_rfl) (by kernel_rfl)) ?_
  intro W base args ds gs before hval0 hW hcnd _
  have hval : ∀ (j : Nat) t v, Try.f3.params[j]? = some t → args[j]? = some v → Value.okWide Try.prog W .any base t v := hval0
  have hW' := hW
  obtain ⟨p, q, hA0, hV, rfl, hfz, hnd⟩ := hW
  have hA : DataW.TrodAll enc Try.prog W 0 (fun _ => true) true Try.f3.params.toList args.toList ds p := hA0
  rw [Try.params3] at hA hval
  obtain ⟨v0, vs0, d0, ds0, p0, q0, hargs, rfl, rfl, h0, r0⟩ := trodAll_cons hA
  obtain ⟨rfl, rfl, rfl⟩ := trodAll_nil r0
  obtain rfl : args = #[v0] := by cases args; simp_all
  obtain ⟨rfl, rfl⟩ := trodVars_none hV
  obtain ⟨a0, len0, cap0, rfl⟩ := okWide_slice Try.underlying22 (hval 0 22 v0 rfl rfl)
  have k0 := h0
  have lt0 : ∀ x ∈ p0, x.block < W.heap.size := by obtain ⟨m, hm⟩ := k0; exact DataW.trod_lt m _ _ _ hm
  obtain ⟨ss, w0, l0, s0⟩ : ∃ ss : Nat → ByteArray, StrsAt W W.heap.size a0 len0 ss ∧ len0 ≤ maxLen ∧ ∀ i, i < len0 → (ss i).size ≤ maxLen := by
    obtain ⟨fuel, hf⟩ := h0
    rcases open_strings Try.underlying22 Try.underlying9 (by kernel_rfl) hf with ⟨hcs, _⟩ | ⟨x, l, c, zs, hcs, _, hl, hm, hz, _, hcell, hwz⟩
    · simp [Value.cells] at hcs
      obtain ⟨rfl, rfl, rfl⟩ := hcs
      exact ⟨fun _ => ByteArray.empty, fun h => absurd h (by omega), Nat.zero_le _, fun i hi => absurd hi (by omega)⟩
    · simp [Value.cells] at hcs
      obtain ⟨rfl, rfl, rfl⟩ := hcs
      simp only [if_true] at hz
      refine ⟨fun i => zs.getD i ByteArray.empty, strs_of hcell (by omega), by omega, fun i hi => hwz _ ?_⟩
      have hi' : i < zs.length := by omega
      have e : zs.getD i ByteArray.empty = zs[i] := by simp [List.getD, hi']
      show zs.getD i ByteArray.empty ∈ zs
      rw [e]
      exact List.getElem_mem _
  clear hA0 hval0
  refine (walk a0 len0 cap0 ss W w0 l0 s0).mono fun e W' ⟨he, bel⟩ => ?_
  subst he
  exact ⟨_, rfl, _, _, _, [], _, [], hW', trodAll_mk1 (shut_bool Try.underlying4 _), (trodAll_cons_mk (Below.trod laidOut (by kernel_rfl) (of_decide_eq_true (by kernel_rfl)) k0 bel lt0) trodAll_mk0), rfl, bel.frame _, fun h => by cases h⟩

set_option maxRecDepth 100000 in
theorem closed : joinedFacts Try.prog 3 Try.f3 Rows.fnRepeatsIffSortedNeighboursEqualSpec Rows.fnRepeatsIffSortedNeighboursEqualRow = true := by
  unfold joinedFacts
  rw [Hd.mayE, Hd.liftsF, Hd.makeF]
  show _ = true
  kernel_rfl

theorem over : Rows.fnRepeatsIffSortedNeighboursEqualRow.holds Try.pinned (OpenSpec.ofChange Rows.fnRepeatsIffSortedNeighboursEqualSpec) :=
  OpenClaim.holds_of_wide 3 Try.f3 rfl rfl rfl rfl rfl rfl rfl ⟨rfl, rfl, rfl, rfl, rfl⟩ rfl rfl rfl rfl rfl (by kernel_rfl) Try.func3 closed
    (of_decide_eq_true (by kernel_rfl)) (by unfold Func.isWrapper; first | (rw [if_pos (by decide +kernel)]; kernel_rfl) | (rw [if_neg (by decide +kernel)]; exact ⟨rfl, rfl⟩))
    (fun os started H enc _ => lifted os started H enc)

/-- THE STATEMENT -/
theorem proved : Rows.FnRepeatsIffSortedNeighboursEqualSaid := over
#print axioms proved
end Go.Proofs.Qxb6602564a.fnRepeatsIff
