import Derived.Test.Qxb6602564aStr3
namespace Go.Proofs.Qxb6602564a
open Go.RowKit

theorem strs_of {w : World} {x : Addr} {len : Nat} {zs : List ByteArray} (h : ∀ i, i < zs.length → w.cell? (x.add i) = some (.string (zs.getD i ByteArray.empty))) (hl : len ≤ zs.length) :
    StrsAt w w.heap.size (some x) len (fun i => zs.getD i ByteArray.empty) := by
  intro hpos
  obtain ⟨b, off, spot⟩ := x
  have c0 := h 0 (by omega)
  have hs : spot = none := by simpa [Addr.add] using World.cell?_spot c0
  subst hs
  refine ⟨b, off, rfl, by simpa [Addr.add] using World.block_lt_of_cell? _ _ c0, fun i hi => ?_⟩
  have := h i (by omega)
  rwa [Addr.add_lit] at this

set_option maxHeartbeats 400000 in
theorem bysort16 (a : Option Addr) (len cap : Nat) (ss : Nat → ByteArray) (w : World) (hs : StrsAt w w.heap.size a len ss) (hlen : len ≤ 4096) :
    Calls Try.prog 16 #[.slice a len cap] w fun e w' => ∃ r : Bool, e = .returned (.bool r) ∧ (r = true ↔ Pl.Rep ss len) ∧ Below w.heap.size w w' := by
  go_enter Try.func16, Try.ntmps16
  go_wp2_with fail
  refine (sort41 a len cap ss _ hs hlen).mono ?_
  rintro e w' ⟨nb, s, rfl, hrow, hperm, hord, hbel⟩
  have hrep : Pl.Adj s len ↔ Pl.Rep ss len := (Pl.adj_iff_rep slt_strict slt_tri hord).trans (Pl.rep_of_perm hperm)
  have HR : Hid (Pl.Adj s len ↔ Pl.Rep ss len) := hrep
  clear hperm hord hrep hs
  go_wp2_with fail
  go_loopg [4] (len - 1) (fun g i wx => ∃ k : Nat, 1 ≤ k ∧ (k ≤ len ∨ k = 1) ∧ g = len - k ∧ i = .int .i64 k ∧ SRow wx nb len s ∧ Hid (∀ x, x + 1 < k → ¬ s (x + 1) = s x) ∧ Below w.heap.size w wx)
  case atStart => exact ⟨1, by omega, .inr rfl, rfl, rfl, hrow, fun x hx => by omega, hbel⟩
  case round =>
    clear hrow hbel
    obtain ⟨k, hk1, hk2, rfl, rfl, hrow, hno, hbel⟩ := hrel
    by_cases hlt : k < len
    · have hkz : (k : Int) < (len : Int) := by omega
      have c1 := hrow.cell hlt
      obtain ⟨m, rfl⟩ : ∃ m, k = m + 1 := ⟨k - 1, by omega⟩
      have c0 := hrow.cell (i := m) (by omega)
      have HO : Hid (SRow wr nb len s) := hrow
      clear hrow
      by_cases he : s (m + 1) = s m
      · have hb := beq_bytes_true he
        have HE : Hid (s (m + 1) = s m) := he
        clear he
        go_wp2_with fail
        go_quiet (fail)
        go_wp2_with fail
        go_ret
        exact ⟨true, rfl, ⟨fun _ => HR.out.1 ⟨m, hlt, HE.out⟩, fun _ => rfl⟩, hbel.trans ⟨rfl, rfl, rfl, Nat.le_refl _, fun _ _ => rfl⟩⟩
      · have hb := beq_bytes_false he
        have HE : Hid (¬ s (m + 1) = s m) := he
        clear he
        go_wp2_with fail
        go_quiet (fail)
        go_wp2_with fail
        go_roundg (len - (m + 2))
        case measure => omega
        case rel =>
          refine ⟨m + 2, by omega, .inl (by omega), rfl, by go_num, HO.out, fun x hx => ?_, hbel.trans ⟨rfl, rfl, rfl, Nat.le_refl _, fun _ _ => rfl⟩⟩
          by_cases e : x = m
          · subst e; exact HE.out
          · exact hno.out x (by omega)
    · go_wp2_with fail
      go_ret
      refine ⟨false, rfl, ⟨fun h => by simp at h, fun h => ?_⟩, hbel⟩
      obtain ⟨x, hx1, hx2⟩ := HR.out.2 h
      exact absurd hx2 (hno.out x (by omega))

end Go.Proofs.Qxb6602564a
