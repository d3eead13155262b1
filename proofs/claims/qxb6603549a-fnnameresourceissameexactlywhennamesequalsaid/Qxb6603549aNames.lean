/-
  'Rows.FnNameResourceIsSameExactlyWhenNamesEqualSaid': the law's walk out of its callees' contracts, and the row.
-/
import Derived.Test.Qxb6603549aRows
import Derived.Test.Qxb6603549aHead
import Derived.Test.Qxb6603549aKit
import Derived.WalkKit
import Derived.ProofKit
import Derived.OpenShut
import Derived.ShutString
import Derived.ChangeOld
import Derived.Below
namespace Go.Proofs.Qxb6603549a.fnNameResourceIsSameExactlyWhenNamesEqual
open Go.ChangeShapes Go.WideShapes Go.ChangeAt Go.RowKit
open Go.ChangeMaps (open_string shut_string)
set_option linter.unusedVariables false      -- a walk need not use every 'w<i>' (that an integer argument fits its kind)

theorem own : ownKnob Try.prog.godebug = none := by kernel_rfl

/-! ### STEP 1: THE WALK -/
set_option maxHeartbeats 400000 in
theorem zz7 (a b : ByteArray) (w : World) (h0 : a.size ≤ maxLen) (h1 : b.size ≤ maxLen) :
    Calls Try.prog 7 #[.string a, .string b] w fun e w' => (e = .returned (.bool false) ∨ e = .returned (.bool true)) ∧ w' = w := by
  unfold maxLen at *
  go_enter Try.func7, Try.ntmps7
  go_wp2
  all_goals go_ret
  all_goals simp

set_option maxRecDepth 100000 in
set_option maxHeartbeats 1000000 in
theorem walk (a0 : ByteArray) (a1 : ByteArray) (w0 : a0.size ≤ maxLen) (w1 : a1.size ≤ maxLen) (w : World) :
    Calls Try.prog 3 #[.string a0, .string a1] w fun e w' => e = .returned (.bool true) ∧ Below w.heap.size w w' := by
  go_enter Try.func3, Try.ntmps3
  go_wp2_with fail
  refine (zz7 a0 a1 _ w0 w1).mono ?_
  rintro e v1 ⟨rfl | rfl, rfl⟩
  · go_wp2_with fail
    go_ret
    exact ⟨rfl, Below.refl _ _⟩
  unfold maxLen at w0 w1
  by_cases g0 : 524288 < a0.size
  · have z0 : (524288 : Int) < (a0.size : Int) := by omega
    go_wp2_with fail
    go_ret
    exact ⟨rfl, Below.refl _ _⟩
  by_cases g1 : 524288 < a1.size
  · have z0 : decide ((524288 : Int) < (a0.size : Int)) = false := decide_eq_false (by omega)
    have z1 : (524288 : Int) < (a1.size : Int) := by omega
    go_wp2_with fail
    go_ret
    exact ⟨rfl, Below.refl _ _⟩
  have z0 : decide ((524288 : Int) < (a0.size : Int)) = false := decide_eq_false (by omega)
  have z1 : decide ((524288 : Int) < (a1.size : Int)) = false := decide_eq_false (by omega)
  have hsym : (a1.toList == a0.toList) = (a0.toList == a1.toList) := by rw [Bool.eq_iff_iff, beq_iff_eq, beq_iff_eq]; exact ⟨Eq.symm, Eq.symm⟩
  have h00 : (a0.toList == a0.toList) = true := by simp
  have h11 : (a1.toList == a1.toList) = true := by simp
  go_wp2_with fail
  refine (name8 a0 _).mono ?_
  rintro e v2 ⟨rfl, hb2⟩
  go_wp2_with fail
  refine (name8 a1 _).mono ?_
  rintro e v3 ⟨rfl, hb3⟩
  go_wp2_with fail
  have hz3 : v2.heap.size < v3.heap.size := by have := hb3.size; simp at this; omega
  obtain ⟨W0, hW0⟩ : ∃ W0, W0 = v3.alloc (.cells #[.string a1, .string ByteArray.empty, .int .u8 0] 25) := ⟨_, rfl⟩
  have p0 : W0.cell? ⟨v2.heap.size, 0, none⟩ = some (.string a0) ∧ W0.cell? ⟨v2.heap.size, 1, none⟩ = some (.string ByteArray.empty) ∧ W0.cell? ⟨v2.heap.size, 2, none⟩ = some (.int .u8 0) := by
    rw [hW0, World.cell?_alloc_lt _ _ ⟨v2.heap.size, 0, none⟩ hz3, World.cell?_alloc_lt _ _ ⟨v2.heap.size, 1, none⟩ hz3, World.cell?_alloc_lt _ _ ⟨v2.heap.size, 2, none⟩ hz3,
      hb3.cell (p := ⟨v2.heap.size, 0, none⟩) (by simp), hb3.cell (p := ⟨v2.heap.size, 1, none⟩) (by simp), hb3.cell (p := ⟨v2.heap.size, 2, none⟩) (by simp)]
    simp
  have p1 : W0.cell? ⟨v3.heap.size, 0, none⟩ = some (.string a1) ∧ W0.cell? ⟨v3.heap.size, 1, none⟩ = some (.string ByteArray.empty) ∧ W0.cell? ⟨v3.heap.size, 2, none⟩ = some (.int .u8 0) := by
    rw [hW0]; simp
  have hs0 : v2.heap.size < W0.heap.size := by rw [hW0]; simp; omega
  have hs1 : v3.heap.size < W0.heap.size := by rw [hW0]; simp
  have hbel : Below v1.heap.size v1 W0 := by
    rw [hW0]
    exact ((hb2.alloc hb2.size _).trans (hb3.mono (by have := hb2.size; simp; omega))).alloc (by have := hb2.size; omega) _
  rw [← hW0]
  clear hW0 hb2 hb3
  generalize v2.heap.size = ba at *
  generalize v3.heap.size = bb at *
  refine wp_region_quiet_in (fun W => Below W0.heap.size W0 W) (by kernel_rfl) (by kernel_rfl) (below_drew W0) ?_
  intro hne0
  have q0 : ∀ W : Among (fun W => Below W0.heap.size W0 W), W.val.cell? ⟨ba, 0, none⟩ = some (.string a0) := fun W => (W.ok.cell (p := ⟨ba, 0, none⟩) hs0).trans p0.1
  have q1 : ∀ W : Among (fun W => Below W0.heap.size W0 W), W.val.cell? ⟨ba, 1, none⟩ = some (.string ByteArray.empty) := fun W => (W.ok.cell (p := ⟨ba, 1, none⟩) hs0).trans p0.2.1
  have q2 : ∀ W : Among (fun W => Below W0.heap.size W0 W), W.val.cell? ⟨ba, 2, none⟩ = some (.int .u8 0) := fun W => (W.ok.cell (p := ⟨ba, 2, none⟩) hs0).trans p0.2.2
  have r0 : ∀ W : Among (fun W => Below W0.heap.size W0 W), W.val.cell? ⟨bb, 0, none⟩ = some (.string a1) := fun W => (W.ok.cell (p := ⟨bb, 0, none⟩) hs1).trans p1.1
  have r1 : ∀ W : Among (fun W => Below W0.heap.size W0 W), W.val.cell? ⟨bb, 1, none⟩ = some (.string ByteArray.empty) := fun W => (W.ok.cell (p := ⟨bb, 1, none⟩) hs1).trans p1.2.1
  have r2 : ∀ W : Among (fun W => Below W0.heap.size W0 W), W.val.cell? ⟨bb, 2, none⟩ = some (.int .u8 0) := fun W => (W.ok.cell (p := ⟨bb, 2, none⟩) hs1).trans p1.2.2
  clear p0 p1 z0 z1 g0 g1 w0 w1
  have HB : Hid (Below v1.heap.size v1 W0) := hbel
  clear hbel
  cases hq : (a0.toList == a1.toList) with
  | true =>
    rw [hq] at hsym
    repeat (go_big_quiet_step ((first | (go_at_call 9; exact Calls.in_below (zis9 _ _ _)) | (go_at_call 8; exact Calls.in_below (name8 _ _)))))
    refine wpQuiet_nil ?_
    rintro _ ⟨⟨W, hW⟩, rfl⟩
    clear q0 q1 q2 r0 r1 r2 hne0
    go_wp2_with fail
    go_ret
    exact ⟨rfl, HB.out.trans (hW.mono HB.out.size)⟩
  | false =>
    rw [hq] at hsym
    repeat (go_big_quiet_step ((first | (go_at_call 9; exact Calls.in_below (zis9 _ _ _)) | (go_at_call 8; exact Calls.in_below (name8 _ _)))))
    refine wpQuiet_nil ?_
    rintro _ ⟨⟨W, hW⟩, rfl⟩
    clear q0 q1 q2 r0 r1 r2 hne0
    go_wp2_with fail
    go_ret
    exact ⟨rfl, HB.out.trans (hW.mono HB.out.size)⟩

/-! ### THE ROW's STEP: WRITTEN OUT: LEAVE IT -/
set_option maxRecDepth 100000 in
theorem lifted (os : Os) (started : os.Started) (H : Type) (enc : TypeId × Value → H) :
    ReturnsInHanded {} Try.checked os 3 .any (Rows.fnNameResourceIsSameExactlyWhenNamesEqualSpec.pre6 enc Try.prog Try.f3 Rows.fnNameResourceIsSameExactlyWhenNamesEqualRow.domain false) (Rows.fnNameResourceIsSameExactlyWhenNamesEqualSpec.post enc Try.prog Try.f3 false true false false) := by
  refine returnsInHanded_of_change (C := Try.checked) own started (by kernel_rfl) Try.func3
    (ChangeSpec.witness6 (enc := enc) (C := Try.checked) false ⟨#[], #[.string ByteArray.empty, .string ByteArray.empty], []⟩ 8 (by kernel_rfl) (by kernel_rfl) (by kernel_rfl) (by kernel_rfl)) ?_
  intro W base args ds gs before hval0 hW hcnd _
  have hval : ∀ (j : Nat) t v, Try.f3.params[j]? = some t → args[j]? = some v → Value.okWide Try.prog W .any base t v := hval0
  have hW' := hW
  obtain ⟨p, q, hA0, hV, rfl, hfz, hnd⟩ := hW
  have hA : DataW.TrodAll enc Try.prog W 0 (fun _ => true) true Try.f3.params.toList args.toList ds p := hA0
  rw [Try.params3] at hA hval
  obtain ⟨v0, vs0, d0, ds0, p0, q0, hargs, rfl, rfl, h0, r0⟩ := trodAll_cons hA
  obtain ⟨v1, vs1, d1, ds1, p1, q1, rfl, rfl, rfl, h1, r1⟩ := trodAll_cons r0
  obtain ⟨rfl, rfl, rfl⟩ := trodAll_nil r1
  obtain rfl : args = #[v0, v1] := by cases args; simp_all
  obtain ⟨rfl, rfl⟩ := trodVars_none hV
  obtain ⟨a0, rfl, rfl, rfl, w0⟩ := open_string Try.underlying9 (hval 0 9 v0 rfl rfl) h0
  obtain ⟨a1, rfl, rfl, rfl, w1⟩ := open_string Try.underlying9 (hval 1 9 v1 rfl rfl) h1
  clear hA0 hval0
  simp only [List.append_nil] at hW'
  refine (walk a0 a1 w0 w1 W).mono fun e W' ⟨he, hg⟩ => ?_
  subst he
  exact ⟨_, rfl, _, _, _, [], [], [], hW', trodAll_mk1 (shut_bool Try.underlying4 _), (trodAll_cons_mk (shut_string Try.underlying9 w0) (trodAll_cons_mk (shut_string Try.underlying9 w1) trodAll_mk0)), rfl, hg.frame _, fun h => by cases h⟩

set_option maxRecDepth 100000 in
theorem closed : joinedFacts Try.prog 3 Try.f3 Rows.fnNameResourceIsSameExactlyWhenNamesEqualSpec Rows.fnNameResourceIsSameExactlyWhenNamesEqualRow = true := by
  unfold joinedFacts
  rw [Hd.mayE, Hd.liftsF, Hd.makeF]
  show _ = true
  kernel_rfl

theorem over : Rows.fnNameResourceIsSameExactlyWhenNamesEqualRow.holds Try.pinned (OpenSpec.ofChange Rows.fnNameResourceIsSameExactlyWhenNamesEqualSpec) :=
  OpenClaim.holds_of_wide 3 Try.f3 rfl rfl rfl rfl rfl rfl rfl ⟨rfl, rfl, rfl, rfl, rfl⟩ rfl rfl rfl rfl rfl (by kernel_rfl) Try.func3 closed
    (of_decide_eq_true (by kernel_rfl)) (by unfold Func.isWrapper; first | (rw [if_pos (by decide +kernel)]; kernel_rfl) | (rw [if_neg (by decide +kernel)]; exact ⟨rfl, rfl⟩))
    (fun os started H enc _ => lifted os started H enc)

/-- THE STATEMENT -/
theorem proved : Rows.FnNameResourceIsSameExactlyWhenNamesEqualSaid :=
  over
#print axioms proved
end Go.Proofs.Qxb6603549a.fnNameResourceIsSameExactlyWhenNamesEqual
