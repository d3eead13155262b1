/-
  'Rows.FnRepeatsSplitsOverConcatenationSaid': the law's walk out of its callees' contracts, and the row.
-/
import Derived.Test.Qxb6602564aRows
import Derived.Test.Qxb6602564aHead
import Derived.Test.Qxb6602564aCat1
import Derived.ProofKit
import Derived.OpenShut
import Derived.ShutString
import Derived.ChangeOld
import Derived.SliceStrings
namespace Go.Proofs.Qxb6602564a.fnRepeatsSplits
open Go.ChangeShapes Go.WideShapes Go.ChangeAt Go.RowKit
set_option linter.unusedVariables false

theorem own : ownKnob Try.prog.godebug = none := by kernel_rfl
theorem laidOut : laidOutB Try.prog = true := by kernel_rfl

theorem strs_of {w : World} {x : Addr} {len : Nat} {zs : List ByteArray} (h : ∀ i, i < zs.length → w.cell? (x.add i) = some (.string (zs.getD i ByteArray.empty))) (hl : len ≤ zs.length) :
    StrsAt w w.heap.size (some x) len (fun i => zs.getD i ByteArray.empty) := by
  intro hpos
  obtain ⟨b, off, spot⟩ := x
  have c0 := h 0 (by omega)
  have hs : spot = none := by simpa [Addr.add] using World.cell?_spot c0
  subst hs
  refine ⟨b, off, rfl, by simpa [Addr.add] using World.block_lt_of_cell? _ _ c0, fun i hi => ?_⟩
  have := h i (by omega)
  rwa [Addr.add_lit] at this

theorem below_drewN {B : Nat} {w : World} (q : Nat) : Below B w (w.drewN q) := ⟨rfl, rfl, rfl, Nat.le_refl _, fun _ _ => rfl⟩

set_option maxRecDepth 100000 in
set_option maxHeartbeats 1000000 in
theorem walk (a : Option Addr) (len cap : Nat) (ss : Nat → ByteArray) (a2 : Option Addr) (len2 cap2 : Nat) (ss2 : Nat → ByteArray) (w : World) (hs : StrsAt w w.heap.size a len ss) (hlen : len ≤ maxLen) (hsz : ∀ i, i < len → (ss i).size ≤ maxLen)
    (hs2 : StrsAt w w.heap.size a2 len2 ss2) (hlen2 : len2 ≤ maxLen) (hsz2 : ∀ i, i < len2 → (ss2 i).size ≤ maxLen) :
    Calls Try.prog 5 #[.slice a len cap, .slice a2 len2 cap2] w fun e w' => e = .returned (.bool true) ∧ Below w.heap.size w w' := by
  go_enter Try.func5, Try.ntmps5
  go_wp2_with fail
  refine (zz18 a len cap ss a2 len2 cap2 ss2 _ hs hlen hsz hs2 hlen2 hsz2).mono ?_
  rintro e w1 ⟨rfl | rfl, rfl⟩
  · go_wp2_with fail
    go_ret
    exact ⟨rfl, Below.refl _ _⟩
  go_wp2_with fail
  refine (pair19 a len cap ss a2 len2 cap2 ss2 _ hs hlen hsz hs2 hlen2 hsz2).mono ?_
  rintro e w2 ⟨rfl | ⟨rfl, hl⟩, rfl⟩
  · go_wp2_with fail
    go_ret
    exact ⟨rfl, Below.refl _ _⟩
  clear hlen hsz hlen2 hsz2
  go_wp2_with fail
  refine (clone14 a len cap ss _ hs (by omega)).mono ?_
  rintro e w3 ⟨a', c', rfl, hc1, hc2, hs3, hb3⟩
  have hs23 := hs2.keep hb3 hb3.size
  clear hs hs2
  go_wp2_with fail
  refine (clone14 a2 len2 cap2 ss2 _ hs23 (by omega)).mono ?_
  rintro e w4 ⟨a2', c2', rfl, hd1, hd2, hs24, hb4⟩
  have hs4 := hs3.keep hb4 hb4.size
  have hbel : Below w2.heap.size w2 w4 := hb3.trans (hb4.mono hb3.size)
  clear hs3 hs23 hb3 hb4
  have hmk := run_make_row' (P := Try.prog) 22 9 (.string ByteArray.empty) 16 Try.underlying22 info9 rfl .i64 .i64 (len + len2) (by omega) (by omega)
  rw [show ((len + len2 : Nat) : Int) = (len : Int) + (len2 : Int) by omega] at hmk
  go_wp2_with fail
  go_loopg [6] len (fun g i wr => ∃ k : Nat, k ≤ len ∧ g = len - k ∧ i = .int .i64 k ∧ (∃ f, SRow wr w4.heap.size (len + len2) f ∧ Hid (∀ x, x < k → f x = Pl.cat ss ss2 len x)) ∧ Below w4.heap.size w4 wr ∧ w4.heap.size < wr.heap.size)
  case atStart => exact ⟨0, Nat.zero_le _, by omega, rfl, ⟨_, World.rowIs_made w4 (.string ByteArray.empty) (len + len2) 9, fun x hx => by omega⟩, (Below.refl _ _).alloc (Nat.le_refl _) _, by simp⟩
  case round =>
    clear hmk
    obtain ⟨k, hk, rfl, rfl, ⟨f, hrow, hf⟩, hbw, hN⟩ := hrel
    by_cases hlt : k < len
    · obtain ⟨b, off, rfl, hb, hc⟩ := hs4 (by omega)
      have hck := (hbw.cell (p := ⟨b, off + k, none⟩) hb).trans (hc k hlt)
      have hkl : k < len + len2 := by omega
      have hdk := hrow.cell hkl
      have hfk := hrow.frozen k
      clear hs4 hc hs24
      go_wp2_with fail
      go_roundg (len - (k + 1))
      case measure => omega
      case rel =>
        refine ⟨k + 1, by omega, rfl, by go_num, ⟨_, hrow.store k _, fun x hx => ?_⟩, hbw.setCell (Nat.le_refl _) _, by simpa using hN⟩
        by_cases e : x = k
        · subst e; rw [Pl.upd_at]; simp [Pl.cat, hlt]
        · rw [Pl.upd_ne _ _ e]; exact hf.out x (by omega)
    · have hf' : Hid (∀ x, x < len → f x = Pl.cat ss ss2 len x) := fun x hx => hf.out x (by omega)
      clear hf
      go_wp2_with fail
      go_loopg [7] len2 (fun g i wx => ∃ k : Nat, k ≤ len2 ∧ g = len2 - k ∧ i = .int .i64 k ∧ (∃ f, SRow wx w4.heap.size (len + len2) f ∧ Hid (∀ x, x < len + k → f x = Pl.cat ss ss2 len x)) ∧ Below w4.heap.size w4 wx ∧ w4.heap.size < wx.heap.size)
      case atStart => exact ⟨0, Nat.zero_le _, by omega, rfl, ⟨f, hrow, fun x hx => hf'.out x (by omega)⟩, hbw, hN⟩
      case round =>
        clear hrow hf' hbw hN hlt hk
        obtain ⟨k, hk, rfl, rfl, ⟨f, hrow, hf⟩, hbw, hN⟩ := hrel
        by_cases hlt : k < len2
        · obtain ⟨b, off, rfl, hb, hc⟩ := hs24 (by omega)
          have hck := (hbw.cell (p := ⟨b, off + k, none⟩) hb).trans (hc k hlt)
          have hkl : len + k < len + len2 := by omega
          have hdk := hrow.cell hkl
          have hfk := hrow.frozen (len + k)
          clear hs4 hc hs24
          go_wp2_with fail
          go_roundg (len2 - (k + 1))
          case measure => omega
          case rel =>
            refine ⟨k + 1, by omega, rfl, by go_num, ⟨_, hrow.store (len + k) _, fun x hx => ?_⟩, hbw.setCell (Nat.le_refl _) _, by simpa using hN⟩
            by_cases e : x = len + k
            · subst e
              rw [Pl.upd_at]
              unfold Pl.cat
              rw [if_neg (by omega), show len + k - len = k by omega]
            · rw [Pl.upd_ne _ _ e]; exact hf.out x (by omega)
        · have hrow' := hrow.as (g := Pl.cat ss ss2 len) fun i hi => hf.out i (by omega)
          have hsab : StrsAt wr wr.heap.size (some ⟨w4.heap.size, 0, none⟩) (len + len2) (Pl.cat ss ss2 len) := hrow'.at hN
          have hsa := hs4.keep hbw hbw.size
          have hsb := hs24.keep hbw hbw.size
          have hbelw : Below w2.heap.size w2 wr := hbel.trans (hbw.mono hbel.size)
          have hcat := Pl.rep_cat ss ss2 len len2
          have HC : Hid (Pl.Rep (Pl.cat ss ss2 len) (len + len2) ↔ (Pl.Rep ss len ∨ Pl.Rep ss2 len2 ∨ Pl.Share ss len ss2 len2)) := hcat
          clear hcat hrow hrow' hf hs4 hs24 hbel hbw hN
          go_wp2_with fail
          refine (rep15 a' len c' ss _ hsa (by omega) hc1 hc2).mono ?_
          rintro e w5 ⟨r1, rfl, hr1, rfl⟩
          have H1 : Hid (r1 = true ↔ Pl.Rep ss len) := hr1
          clear hr1
          cases r1 with
          | true =>
            go_wp2_with fail
            refine (rep15 _ (len + len2) _ (Pl.cat ss ss2 len) _ hsab (by omega) (Nat.le_refl _) (by unfold maxLen; omega)).mono ?_
            rintro e w6 ⟨r, rfl, hr, rfl⟩
            have er : r = true := hr.2 (HC.out.2 (Or.inl (H1.out.1 (by simp))))
            subst er
            clear hr
            go_wp2_with fail
            go_ret
            exact ⟨rfl, hbelw⟩
          | false =>
            go_wp2_with fail
            refine (rep15 a2' len2 c2' ss2 _ hsb (by omega) hd1 hd2).mono ?_
            rintro e w6 ⟨r2, rfl, hr2, rfl⟩
            have H2 : Hid (r2 = true ↔ Pl.Rep ss2 len2) := hr2
            clear hr2
            cases r2 with
            | true =>
              go_wp2_with fail
              refine (rep15 _ (len + len2) _ (Pl.cat ss ss2 len) _ hsab (by omega) (Nat.le_refl _) (by unfold maxLen; omega)).mono ?_
              rintro e w6 ⟨r, rfl, hr, rfl⟩
              have er : r = true := hr.2 (HC.out.2 (Or.inr (Or.inl (H2.out.1 (by simp)))))
              subst er
              clear hr
              go_wp2_with fail
              go_ret
              exact ⟨rfl, hbelw⟩
            | false =>
              go_wp2_with fail
              refine (share20 a' len c' ss a2' len2 c2' ss2 _ hsa (by omega) hsb (by omega)).mono ?_
              rintro e w7 ⟨r3, rfl, hr3, q, rfl⟩
              have H3 : Hid (r3 = true ↔ Pl.Share ss len ss2 len2) := hr3
              clear hr3
              have hsab' := hsab.keep (below_drewN q) (Nat.le_refl _)
              go_wp2_with fail
              refine (rep15 _ (len + len2) _ (Pl.cat ss ss2 len) _ hsab' (by omega) (Nat.le_refl _) (by unfold maxLen; omega)).mono ?_
              rintro e w6 ⟨r, rfl, hr, rfl⟩
              have er : r = r3 := by
                refine Bool.eq_iff_iff.2 (hr.trans (HC.out.trans (Iff.trans ?_ H3.out.symm)))
                refine ⟨fun h => ?_, fun h => .inr (.inr h)⟩
                rcases h with h | h | h
                · have := H1.out.2 h; simp at this
                · have := H2.out.2 h; simp at this
                · exact h
              subst er
              clear hr H3
              go_wp2_with fail
              go_ret
              exact ⟨by simp, hbelw.trans (below_drewN q)⟩

theorem open_one {H : Type} {enc : TypeId × Value → H} {W : World} {a0 : Option Addr} {len0 cap0 : Nat} {d0 : DataW H} {p0 : List MemPlace} (h0 : DataW.Trod enc Try.prog W 0 (fun _ => true) true 22 (.slice a0 len0 cap0) d0 p0) :
    ∃ ss : Nat → ByteArray, StrsAt W W.heap.size a0 len0 ss ∧ len0 ≤ maxLen ∧ ∀ i, i < len0 → (ss i).size ≤ maxLen := by
  obtain ⟨fuel, hf⟩ := h0
  rcases open_strings Try.underlying22 Try.underlying9 (by kernel_rfl) hf with ⟨hcs, _⟩ | ⟨x, l, c, zs, hcs, _, hl, hm, hz, _, hcell, hwz⟩
  · simp [Value.cells] at hcs
    obtain ⟨rfl, rfl, rfl⟩ := hcs
    exact ⟨fun _ => ByteArray.empty, fun h => absurd h (by omega), Nat.zero_le _, fun i hi => absurd hi (by omega)⟩
  · simp [Value.cells] at hcs
    obtain ⟨rfl, rfl, rfl⟩ := hcs
    simp only [if_true] at hz
    refine ⟨fun i => zs.getD i ByteArray.empty, strs_of hcell (by omega), by omega, fun i hi => hwz _ ?_⟩
    have hi' : i < zs.length := by omega
    have e : zs.getD i ByteArray.empty = zs[i] := by simp [List.getD, hi']
    show zs.getD i ByteArray.empty ∈ zs
    rw [e]
    exact List.getElem_mem _

set_option maxRecDepth 100000 in
theorem lifted (os : Os) (started : os.Started) (H : Type) (enc : TypeId × Value → H) :
    ReturnsInHanded {} Try.checked os 5 .any (Rows.fnRepeatsSplitsOverConcatenationSpec.pre6 enc Try.prog Try.f5 Rows.fnRepeatsSplitsOverConcatenationRow.domain false) (Rows.fnRepeatsSplitsOverConcatenationSpec.post enc Try.prog Try.f5 false true false false) := by
  refine returnsInHanded_of_change (C := Try.checked) own started (by kernel_rfl) Try.func5
    (ChangeSpec.witness6 (enc := enc) (C := Try.checked) false ⟨#[], #[.slice none 0 0, .slice none 0 0], []⟩ 8 (by kernel_rfl) (by kernel_rfl) (by kernel_rfl) (by kernel_rfl)) ?_
  intro W base args ds gs before hval0 hW hcnd _
  have hval : ∀ (j : Nat) t v, Try.f5.params[j]? = some t → args[j]? = some v → Value.okWide Try.prog W .any base t v := hval0
  have hW' := hW
  obtain ⟨p, q, hA0, hV, rfl, hfz, hnd⟩ := hW
  have hA : DataW.TrodAll enc Try.prog W 0 (fun _ => true) true Try.f5.params.toList args.toList ds p := hA0
  rw [Try.params5] at hA hval
  obtain ⟨v0, vs0, d0, ds0, p0, q0, hargs, rfl, rfl, h0, r0⟩ := trodAll_cons hA
  obtain ⟨v1, vs1, d1, ds1, p1, q1, rfl, rfl, rfl, h1, r1⟩ := trodAll_cons r0
  obtain ⟨rfl, rfl, rfl⟩ := trodAll_nil r1
  obtain rfl : args = #[v0, v1] := by cases args; simp_all
  obtain ⟨rfl, rfl⟩ := trodVars_none hV
  obtain ⟨a0, len0, cap0, rfl⟩ := okWide_slice Try.underlying22 (hval 0 22 v0 rfl rfl)
  have k0 := h0
  have lt0 : ∀ x ∈ p0, x.block < W.heap.size := by obtain ⟨m, hm⟩ := k0; exact DataW.trod_lt m _ _ _ hm
  obtain ⟨ss, w0, l0, s0⟩ := open_one h0
  obtain ⟨a1, len1, cap1, rfl⟩ := okWide_slice Try.underlying22 (hval 1 22 v1 rfl rfl)
  have k1 := h1
  have lt1 : ∀ x ∈ p1, x.block < W.heap.size := by obtain ⟨m, hm⟩ := k1; exact DataW.trod_lt m _ _ _ hm
  obtain ⟨ss1, w1, l1, s1⟩ := open_one h1
  clear hA0 hval0
  refine (walk a0 len0 cap0 ss a1 len1 cap1 ss1 W w0 l0 s0 w1 l1 s1).mono fun e W' ⟨he, bel⟩ => ?_
  subst he
  exact ⟨_, rfl, _, _, _, [], _, [], hW', trodAll_mk1 (shut_bool Try.underlying4 _), (trodAll_cons_mk (Below.trod laidOut (by kernel_rfl) (of_decide_eq_true (by kernel_rfl)) k0 bel lt0) (trodAll_cons_mk (Below.trod laidOut (by kernel_rfl) (of_decide_eq_true (by kernel_rfl)) k1 bel lt1) trodAll_mk0)), rfl, bel.frame _, fun h => by cases h⟩

set_option maxRecDepth 100000 in
theorem closed : joinedFacts Try.prog 5 Try.f5 Rows.fnRepeatsSplitsOverConcatenationSpec Rows.fnRepeatsSplitsOverConcatenationRow = true := by
  unfold joinedFacts
  rw [Hd.mayE, Hd.liftsF, Hd.makeF]
  show _ = true
  kernel_rfl

theorem over : Rows.fnRepeatsSplitsOverConcatenationRow.holds Try.pinned (OpenSpec.ofChange Rows.fnRepeatsSplitsOverConcatenationSpec) :=
  OpenClaim.holds_of_wide 5 Try.f5 rfl rfl rfl rfl rfl rfl rfl ⟨rfl, rfl, rfl, rfl, rfl⟩ rfl rfl rfl rfl rfl (by kernel_rfl) Try.func5 closed
    (of_decide_eq_true (by kernel_rfl)) (by unfold Func.isWrapper; first | (rw [if_pos (by decide +kernel)]; kernel_rfl) | (rw [if_neg (by decide +kernel)]; exact ⟨rfl, rfl⟩))
    (fun os started H enc _ => lifted os started H enc)

/-- THE STATEMENT -/
theorem proved : Rows.FnRepeatsSplitsOverConcatenationSaid := over
#print axioms proved
end Go.Proofs.Qxb6602564a.fnRepeatsSplits
