/-
  'Rows.FnRadixSortsByTotalHeldDownNodeSaid': the law's walk out of its callees' contracts, and the row (the row's step is the given shell's).
-/
import Derived.Test.Qxb6602564aRows
import Derived.Test.Qxb6602564aHead
import Derived.Test.Qxb6602564aRw5
import Derived.Test.Qxb6602564aSrt2
import Derived.WalkKit
import Derived.ProofKit
import Derived.OpenShut
import Derived.ShutString
import Derived.ChangeOld
import Derived.Below
namespace Go.Proofs.Qxb6602564a.fnRadixSortsByTotalHeldDownNode
open Go.ChangeShapes Go.WideShapes Go.ChangeAt Go.RowKit
open Go.ChangeMaps (open_string shut_string)
set_option linter.unusedVariables false

theorem own : ownKnob Try.prog.godebug = none := by kernel_rfl
theorem laidOut : laidOutB Try.prog = true := by kernel_rfl

/-- WHAT THE WALK IS TOLD OF A SLICE OF INTEGERS THAT CAME IN: it is nil; or it leads to a row of 'cap' cells, the numbers 'zs' (the first 'len' are its elements, the rest its spare room), each fitting its kind. -/
def IsRow (k : IntKind) (w : World) (a : Option Addr) (len cap : Nat) (zs : List Int) : Prop :=
  (a = none ∧ len = 0 ∧ cap = 0 ∧ zs = []) ∨
  ∃ x, a = some x ∧ len ≤ cap ∧ cap ≤ maxLen ∧ zs.length = cap ∧ (∀ i, i < zs.length → w.cell? (x.add i) = some (.int k (zs.getD i 0))) ∧ ∀ n ∈ zs, (Lit.int k n).wf = true

theorem ints_of {w : World} {a : Option Addr} {len cap : Nat} {zs : List Int} (h : IsRow .i64 w a len cap zs) :
    IntsAt w w.heap.size a len (fun i => zs.getD i 0) ∧ Bd (fun i => zs.getD i 0) len ∧ len ≤ maxLen := by
  rcases h with ⟨rfl, rfl, rfl, rfl⟩ | ⟨x, rfl, h1, h2, h3, h4, h5⟩
  · exact ⟨fun h => absurd h (by omega), fun i hi => absurd hi (by omega), Nat.zero_le _⟩
  · refine ⟨fun hpos => ?_, fun i hi => ?_, by omega⟩
    · obtain ⟨b, off, spot⟩ := x
      have c0 := h4 0 (by omega)
      have hs : spot = none := by simpa [Addr.add] using World.cell?_spot c0
      subst hs
      refine ⟨b, off, rfl, by simpa [Addr.add] using World.block_lt_of_cell? _ _ c0, fun i hi => ?_⟩
      have := h4 i (by omega)
      rwa [Addr.add_lit] at this
    · have hi' : i < zs.length := by omega
      have e : zs.getD i 0 = zs[i] := by simp [List.getD, hi']
      have hw := h5 zs[i] (List.getElem_mem _)
      show -9223372036854775808 ≤ zs.getD i 0 ∧ zs.getD i 0 ≤ 9223372036854775807
      rw [e]
      have := bounds_i64 hw
      omega

theorem below_drewN {B : Nat} {w : World} (q : Nat) : Below B w (w.drewN q) := ⟨rfl, rfl, rfl, Nat.le_refl _, fun _ _ => rfl⟩

theorem same_of {G1 G2 F1 F2 : Nat → Pl.Key} {n : Nat} (p1 : (Pl.seg G1 0 n).Perm (Pl.seg F1 0 n)) (p2 : (Pl.seg G2 0 n).Perm (Pl.seg F2 0 n)) (s1 : (Pl.seg G1 0 n).Pairwise (Pl.lexLe 3)) (s2 : (Pl.seg G2 0 n).Pairwise (Pl.lexLe 3))
    (h : (Pl.seg F2 0 n).Perm (Pl.seg F1 0 n)) : ∀ i, i < n → G1 i = G2 i := by
  have e := Pl.sorted_unique (fun x y => Pl.lex3_antisymm) ((p1.trans h.symm).trans p2.symm) s1 s2
  intro i hi
  have g1 := Pl.seg_getOpt G1 n hi
  rw [e, Pl.seg_getOpt G2 n hi] at g1
  exact (Option.some.inj g1).symm

theorem perm_keys (K : Nat → Pl.Key) {f : Nat → Nat} {n : Nat} (h : (Pl.seg f 0 n).Perm (Pl.seg id 0 n)) : (Pl.seg (fun i => K (f i)) 0 n).Perm (Pl.seg K 0 n) := by
  have h1 := h.map K
  unfold Pl.seg at *
  simpa [List.map_map, Function.comp_def] using h1

theorem sorted_keys (K : Nat → Pl.Key) {f : Nat → Nat} {n : Nat} (h : Pl.InOrder (ibef K) f 0 n) : (Pl.seg (fun i => K (f i)) 0 n).Pairwise (Pl.lexLe 3) := by
  rw [List.pairwise_iff_getElem]
  intro i j hi hj hlt
  rw [Pl.seg_get, Pl.seg_get]
  rw [Pl.seg_length] at hj
  have := h (0 + i) (0 + j) (Nat.zero_le _) (by omega) (by omega)
  exact lex_of_not_before this

/-! ### STEP 1: THE WALK -/
set_option maxRecDepth 100000 in
set_option maxHeartbeats 1000000 in
theorem walk (a0 : Option Addr) (len0 cap0 : Nat) (z0 : List Int) (a1 : Option Addr) (len1 cap1 : Nat) (z1 : List Int) (a2 : Option Addr) (len2 cap2 : Nat) (z2 : List Int) (w : World) (w0 : IsRow .i64 w a0 len0 cap0 z0) (w1 : IsRow .i64 w a1 len1 cap1 z1) (w2 : IsRow .i64 w a2 len2 cap2 z2) :
    Calls Try.prog 6 #[.slice a0 len0 cap0, .slice a1 len1 cap1, .slice a2 len2 cap2] w fun e w' => e = .returned (.bool true) ∧ Below w.heap.size w w' := by
  obtain ⟨h0, b0, m0⟩ := ints_of w0
  obtain ⟨h1, b1, m1⟩ := ints_of w1
  obtain ⟨h2, b2, m2⟩ := ints_of w2
  clear w0 w1 w2
  generalize (fun i => z0.getD i 0) = ts at *
  generalize (fun i => z1.getD i 0) = hs at *
  generalize (fun i => z2.getD i 0) = ns at *
  go_enter Try.func6, Try.ntmps6
  go_wp2_with fail
  refine (zz21 a0 a1 a2 len0 cap0 len1 cap1 len2 cap2 _ m0 m1 m2).mono ?_
  rintro e v1 ⟨rfl | rfl, rfl⟩
  · go_wp2_with fail
    go_ret
    exact ⟨rfl, Below.refl _ _⟩
  go_wp2_with fail
  refine (fit22 a0 len0 cap0 ts a1 len1 cap1 hs a2 len2 cap2 ns _ h0 h1 h2 b0 b1 b2 m0 m1 m2).mono ?_
  rintro e v2 ⟨rfl | ⟨rfl, hfit⟩, rfl⟩
  · go_wp2_with fail
    go_ret
    exact ⟨rfl, Below.refl _ _⟩
  obtain ⟨hpos, e1, e2, hsz, hl, st, sh, sn⟩ := hfit
  subst e1 e2
  have HL : Hid (∀ i, i < len2 → hs i ≠ -9223372036854775808) := hl
  clear hl b0 b2 m0 m1 m2
  go_wp2_with fail
  refine (clone23 a0 len2 cap0 ts _ h0 (by omega)).mono ?_
  rintro e w1 ⟨a0', c0', rfl, h0, hb1⟩
  have h1 := h1.keep hb1 hb1.size
  have h2 := h2.keep hb1 hb1.size
  go_wp2_with fail
  refine (clone23 a1 len2 cap1 hs _ h1 (by omega)).mono ?_
  rintro e w2 ⟨a1', c1', rfl, h1, hb2⟩
  have h0 := h0.keep hb2 hb2.size
  have h2 := h2.keep hb2 hb2.size
  go_wp2_with fail
  refine (clone23 a2 len2 cap2 ns _ h2 (by omega)).mono ?_
  rintro e w3 ⟨a2', c2', rfl, h2, hb3⟩
  have h0 := h0.keep hb3 hb3.size
  have h1 := h1.keep hb3 hb3.size
  have hbel := (hb1.trans (hb2.mono hb1.size)).trans (hb3.mono (Nat.le_trans hb1.size hb2.size))
  clear hb1 hb2 hb3
  go_wp2_with fail
  refine (radix24 a0' len2 c0' ts a1' c1' hs a2' c2' ns _ h0 h1 h2 hpos hsz b1 HL.out st sh sn).mono ?_
  rintro e w4 ⟨x0, x1, x2, G1, rfl, g0, g1, g2, P1, S1, hb4⟩
  have h0 := h0.keep hb4 hb4.size
  have h1 := h1.keep hb4 hb4.size
  have h2 := h2.keep hb4 hb4.size
  have hbel := hbel.trans (hb4.mono hbel.size)
  clear hb4
  go_wp2_with fail
  refine (sorted25 a0' len2 c0' ts a1' c1' hs a2' c2' ns _ h0 h1 h2 hsz).mono ?_
  rintro e w8 ⟨y0, y1, y2, f, rfl, q0, q1, q2, PF, OF, hb8⟩
  have g0 := g0.keep hb8 hb8.size
  have g1 := g1.keep hb8 hb8.size
  have g2 := g2.keep hb8 hb8.size
  have hbel := hbel.trans (hb8.mono hbel.size)
  clear hb8
  have hsame := same_of P1.out (perm_keys (keysOf ts hs ns) PF.out) S1.out (sorted_keys (keysOf ts hs ns) OF.out) (List.Perm.refl _)
  have HS : Hid (∀ i, i < len2 → G1 i = keysOf ts hs ns (f i)) := hsame
  clear hsame P1 PF S1 OF h0 h1 h2 st sh sn HL b1
  go_wp2_with fail
  refine (same26 x0 len2 len2 _ y0 len2 _ _ g0 q0 (by omega) (fun i hi => by rw [HS.out i hi]; rfl)).mono ?_
  rintro e w9 ⟨rfl, n9, rfl⟩
  have g1 := g1.keep (below_drewN n9) (Nat.le_refl _)
  have g2 := g2.keep (below_drewN n9) (Nat.le_refl _)
  have q1 := q1.keep (below_drewN n9) (Nat.le_refl _)
  have q2 := q2.keep (below_drewN n9) (Nat.le_refl _)
  have hbel := hbel.trans (below_drewN n9)
  go_wp2_with fail
  refine (same26 x1 len2 len2 _ y1 len2 _ _ g1 q1 (by omega) (fun i hi => by rw [HS.out i hi]; rfl)).mono ?_
  rintro e w10 ⟨rfl, n10, rfl⟩
  have g2 := g2.keep (below_drewN n10) (Nat.le_refl _)
  have q2 := q2.keep (below_drewN n10) (Nat.le_refl _)
  have hbel := hbel.trans (below_drewN n10)
  rw [World.drewN_drewN] at g2 q2 hbel
  go_wp2_with fail
  refine (same26 x2 len2 len2 _ y2 len2 _ _ g2 q2 (by omega) (fun i hi => by rw [HS.out i hi]; rfl)).mono ?_
  rintro e w11 ⟨rfl, n11, rfl⟩
  have hbel := hbel.trans (below_drewN n11)
  rw [World.drewN_drewN] at hbel
  go_wp2_with fail
  go_ret
  exact ⟨rfl, hbel⟩

/-! ### THE ROW's STEP: WRITTEN OUT: LEAVE IT -/
set_option maxRecDepth 100000 in
theorem lifted (os : Os) (started : os.Started) (H : Type) (enc : TypeId × Value → H) :
    ReturnsInHanded {} Try.checked os 6 .any (Rows.fnRadixSortsByTotalHeldDownNodeSpec.pre6 enc Try.prog Try.f6 Rows.fnRadixSortsByTotalHeldDownNodeRow.domain false) (Rows.fnRadixSortsByTotalHeldDownNodeSpec.post enc Try.prog Try.f6 false true false false) := by
  refine returnsInHanded_of_change (C := Try.checked) own started (by kernel_rfl) Try.func6
    (ChangeSpec.witness6 (enc := enc) (C := Try.checked) false ⟨#[], #[.slice none 0 0, .slice none 0 0, .slice none 0 0], []⟩ 8 (by kernel_rfl) (by kernel_rfl) (by kernel_rfl) (by kernel_rfl)) ?_
  intro W base args ds gs before hval0 hW hcnd _
  have hval : ∀ (j : Nat) t v, Try.f6.params[j]? = some t → args[j]? = some v → Value.okWide Try.prog W .any base t v := hval0
  have hW' := hW
  obtain ⟨p, q, hA0, hV, rfl, hfz, hnd⟩ := hW
  have hA : DataW.TrodAll enc Try.prog W 0 (fun _ => true) true Try.f6.params.toList args.toList ds p := hA0
  rw [Try.params6] at hA hval
  obtain ⟨v0, vs0, d0, ds0, p0, q0, hargs, rfl, rfl, h0, r0⟩ := trodAll_cons hA
  obtain ⟨v1, vs1, d1, ds1, p1, q1, rfl, rfl, rfl, h1, r1⟩ := trodAll_cons r0
  obtain ⟨v2, vs2, d2, ds2, p2, q2, rfl, rfl, rfl, h2, r2⟩ := trodAll_cons r1
  obtain ⟨rfl, rfl, rfl⟩ := trodAll_nil r2
  obtain rfl : args = #[v0, v1, v2] := by cases args; simp_all
  obtain ⟨rfl, rfl⟩ := trodVars_none hV
  obtain ⟨a0, len0, cap0, rfl⟩ := okWide_slice Try.underlying26 (hval 0 26 v0 rfl rfl)
  have k0 := h0
  have lt0 : ∀ x ∈ p0, x.block < W.heap.size := by obtain ⟨m, hm⟩ := k0; exact DataW.trod_lt m _ _ _ hm
  obtain ⟨z0, w0⟩ : ∃ zs, IsRow .i64 W a0 len0 cap0 zs := by
    obtain ⟨fuel, hf⟩ := h0
    rcases open_ints Try.underlying26 Try.underlying3 (by kernel_rfl) hf with ⟨hcs, _⟩ | ⟨x, l, c, zs, hcs, _, hl, hm, hz, _, hcell, hwz⟩
    · simp [Value.cells] at hcs
      obtain ⟨rfl, rfl, rfl⟩ := hcs
      exact ⟨[], .inl ⟨rfl, rfl, rfl, rfl⟩⟩
    · simp [Value.cells] at hcs
      obtain ⟨rfl, rfl, rfl⟩ := hcs
      exact ⟨zs, .inr ⟨_, rfl, hl, hm, by simpa using hz, hcell, hwz⟩⟩
  obtain ⟨a1, len1, cap1, rfl⟩ := okWide_slice Try.underlying26 (hval 1 26 v1 rfl rfl)
  have k1 := h1
  have lt1 : ∀ x ∈ p1, x.block < W.heap.size := by obtain ⟨m, hm⟩ := k1; exact DataW.trod_lt m _ _ _ hm
  obtain ⟨z1, w1⟩ : ∃ zs, IsRow .i64 W a1 len1 cap1 zs := by
    obtain ⟨fuel, hf⟩ := h1
    rcases open_ints Try.underlying26 Try.underlying3 (by kernel_rfl) hf with ⟨hcs, _⟩ | ⟨x, l, c, zs, hcs, _, hl, hm, hz, _, hcell, hwz⟩
    · simp [Value.cells] at hcs
      obtain ⟨rfl, rfl, rfl⟩ := hcs
      exact ⟨[], .inl ⟨rfl, rfl, rfl, rfl⟩⟩
    · simp [Value.cells] at hcs
      obtain ⟨rfl, rfl, rfl⟩ := hcs
      exact ⟨zs, .inr ⟨_, rfl, hl, hm, by simpa using hz, hcell, hwz⟩⟩
  obtain ⟨a2, len2, cap2, rfl⟩ := okWide_slice Try.underlying26 (hval 2 26 v2 rfl rfl)
  have k2 := h2
  have lt2 : ∀ x ∈ p2, x.block < W.heap.size := by obtain ⟨m, hm⟩ := k2; exact DataW.trod_lt m _ _ _ hm
  obtain ⟨z2, w2⟩ : ∃ zs, IsRow .i64 W a2 len2 cap2 zs := by
    obtain ⟨fuel, hf⟩ := h2
    rcases open_ints Try.underlying26 Try.underlying3 (by kernel_rfl) hf with ⟨hcs, _⟩ | ⟨x, l, c, zs, hcs, _, hl, hm, hz, _, hcell, hwz⟩
    · simp [Value.cells] at hcs
      obtain ⟨rfl, rfl, rfl⟩ := hcs
      exact ⟨[], .inl ⟨rfl, rfl, rfl, rfl⟩⟩
    · simp [Value.cells] at hcs
      obtain ⟨rfl, rfl, rfl⟩ := hcs
      exact ⟨zs, .inr ⟨_, rfl, hl, hm, by simpa using hz, hcell, hwz⟩⟩
  clear hA0 hval0
  refine (walk a0 len0 cap0 z0 a1 len1 cap1 z1 a2 len2 cap2 z2 W w0 w1 w2).mono fun e W' ⟨he, bel⟩ => ?_
  subst he
  exact ⟨_, rfl, _, _, _, [], _, [], hW', trodAll_mk1 (shut_bool Try.underlying4 _), (trodAll_cons_mk (Below.trod laidOut (by kernel_rfl) (of_decide_eq_true (by kernel_rfl)) k0 bel lt0) (trodAll_cons_mk (Below.trod laidOut (by kernel_rfl) (of_decide_eq_true (by kernel_rfl)) k1 bel lt1) (trodAll_cons_mk (Below.trod laidOut (by kernel_rfl) (of_decide_eq_true (by kernel_rfl)) k2 bel lt2) trodAll_mk0))), rfl, bel.frame _, fun h => by cases h⟩

set_option maxRecDepth 100000 in
theorem closed : joinedFacts Try.prog 6 Try.f6 Rows.fnRadixSortsByTotalHeldDownNodeSpec Rows.fnRadixSortsByTotalHeldDownNodeRow = true := by
  unfold joinedFacts
  rw [Hd.mayE, Hd.liftsF, Hd.makeF]
  show _ = true
  kernel_rfl

theorem over : Rows.fnRadixSortsByTotalHeldDownNodeRow.holds Try.pinned (OpenSpec.ofChange Rows.fnRadixSortsByTotalHeldDownNodeSpec) :=
  OpenClaim.holds_of_wide 6 Try.f6 rfl rfl rfl rfl rfl rfl rfl ⟨rfl, rfl, rfl, rfl, rfl⟩ rfl rfl rfl rfl rfl (by kernel_rfl) Try.func6 closed
    (of_decide_eq_true (by kernel_rfl)) (by unfold Func.isWrapper; first | (rw [if_pos (by decide +kernel)]; kernel_rfl) | (rw [if_neg (by decide +kernel)]; exact ⟨rfl, rfl⟩))
    (fun os started H enc _ => lifted os started H enc)

/-- THE STATEMENT -/
theorem proved : Rows.FnRadixSortsByTotalHeldDownNodeSaid := over
#print axioms proved
end Go.Proofs.Qxb6602564a.fnRadixSortsByTotalHeldDownNode
