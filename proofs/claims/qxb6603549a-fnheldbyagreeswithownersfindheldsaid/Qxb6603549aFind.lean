/-
  FindHeld (17).
-/
import Derived.Test.Qxb6603549aHold
namespace Go.Proofs.Qxb6603549a
open Go.RowKit

/-- The cells of n held locks: lock L i in mode M i. -/
def hcells (L : Nat → Nat) (M : Nat → Int) : Nat → List Value
  | 0 => []
  | n + 1 => hcells L M n ++ [.pointer (some ⟨L n, 0, none⟩), .int .i64 (M n)]

theorem hcells_length (L : Nat → Nat) (M : Nat → Int) (n : Nat) : (hcells L M n).length = n * 2 := by
  induction n with
  | zero => rfl
  | succ n ih => simp [hcells, ih]; omega

theorem hcells_at (L : Nat → Nat) (M : Nat → Int) (n : Nat) {i : Nat} (h : i < n) : (hcells L M n)[i * 2]? = some (.pointer (some ⟨L i, 0, none⟩)) ∧ (hcells L M n)[i * 2 + 1]? = some (.int .i64 (M i)) := by
  induction n with
  | zero => omega
  | succ n ih =>
    have hl := hcells_length L M n
    unfold hcells
    by_cases e : i = n
    · subst e
      rw [List.getElem?_append_right (by omega), List.getElem?_append_right (by omega), hl]
      simp [show i * 2 + 1 - i * 2 = 1 by omega]
    · rw [List.getElem?_append_left (by omega), List.getElem?_append_left (by omega)]
      exact ih (by omega)

theorem hcells_congr {L L' : Nat → Nat} {M M' : Nat → Int} {n : Nat} (h : ∀ i, i < n → L i = L' i ∧ M i = M' i) : hcells L M n = hcells L' M' n := by
  induction n with
  | zero => rfl
  | succ n ih => unfold hcells; rw [ih fun i hi => h i (by omega), (h n (by omega)).1, (h n (by omega)).2]

/-- What a slice of held locks reads as, cell by cell. -/
theorem held_cells {w : World} {base : Nat} {v : Value} {n : Nat} {L : Nat → Nat} {M : Nat → Int} (h : w.ownsRow base 55 2 v n (hcells L M n)) (hn : 0 < n) :
    ∃ g cap, v = .slice (some ⟨g, 0, none⟩) n cap ∧ g < w.heap.size ∧ ∀ i, i < n → w.cell? ⟨g, i * 2, none⟩ = some (.pointer (some ⟨L i, 0, none⟩)) ∧ w.cell? ⟨g, i * 2 + 1, none⟩ = some (.int .i64 (M i)) := by
  rcases h.2 with ⟨_, h⟩ | ⟨g, cap, cur, rfl, _, hg, _, _, hs, ht⟩
  · omega
  · refine ⟨g, cap, rfl, (Array.getElem?_eq_some_iff.1 hg).1, fun i hi => ?_⟩
    obtain ⟨h1, h2⟩ := hcells_at L M n hi
    rw [← ht, List.getElem?_take_of_lt (by omega)] at h1 h2
    simp only [World.cell?, hg]
    simp at h1 h2
    exact ⟨by simpa using h1, by simpa using h2⟩

/-- Block b opens with the resource of the name s. -/
structure ResAt (W : World) (b : Nat) (s : ByteArray) : Prop where
  lt : b < W.heap.size
  c0 : W.cell? ⟨b, 0, none⟩ = some (.string s)
  c1 : W.cell? ⟨b, 1, none⟩ = some (.string ByteArray.empty)
  c2 : W.cell? ⟨b, 2, none⟩ = some (.int .u8 0)

theorem LockAt.res {W : World} {b : Nat} {s : ByteArray} {fo : Option Addr} {fm : Int} {om : Option Nat} (h : LockAt W b s fo fm om) : ResAt W b s := by
  have hl := h.lt
  obtain ⟨c, hb, h0, h1, h2, _⟩ := h
  exact ⟨hl, by simp [World.cell?, hb, h0], by simp [World.cell?, hb, h1], by simp [World.cell?, hb, h2]⟩

theorem ResAt.keep {W W' : World} {B b : Nat} {s : ByteArray} (h : ResAt W b s) (hb : Below B W W') (hB : b < B) : ResAt W' b s :=
  ⟨Nat.lt_of_lt_of_le h.lt hb.size, (hb.cell (p := ⟨b, 0, none⟩) hB).trans h.c0, (hb.cell (p := ⟨b, 1, none⟩) hB).trans h.c1, (hb.cell (p := ⟨b, 2, none⟩) hB).trans h.c2⟩

/-- The place that is looked at in round j, of n, from 'fr' on. -/
def rot (n fr j : Nat) : Nat := if n ≤ fr + j then fr + j - n else fr + j

set_option maxRecDepth 100000 in
set_option maxHeartbeats 800000 in
theorem find17 (base bo n fr : Nat) (v : Value) (L : Nat → Nat) (M : Nat → Int) (nm : Nat → ByteArray) (s : ByteArray) (w : World) (ho : OwnAt w bo v) (hown : w.ownsRow base 55 2 v n (hcells L M n)) (hres : ∀ i, i < n → ResAt w (L i) (nm i))
    (hn : n ≤ 65536) (hfr : fr ≤ n) :
    Calls Try.prog 17 #[.pointer (some ⟨bo, 0, none⟩), .agg #[.string s, .string ByteArray.empty, .int .u8 0], .int .i64 (fr : Int)] w fun e w' =>
      ((∃ i, i < n ∧ nm i = s ∧ e = .returned (.tuple #[.int .i64 (i : Int), .int .i64 (M i)])) ∨ (∀ i, i < n → nm i ≠ s) ∧ e = .returned (.tuple #[.int .i64 (-1), .int .i64 0])) ∧ Below w.heap.size w w' := by
  obtain ⟨ao, cap, rfl⟩ : ∃ ao cap, v = .slice ao n cap := by
    rcases hown.2 with ⟨rfl, rfl⟩ | ⟨g, cap, _, rfl, _⟩
    · exact ⟨none, 0, rfl⟩
    · exact ⟨_, cap, rfl⟩
  have hbo := ho.lt
  have hb1 : Below w.heap.size w (w.alloc (.cells #[.string s, .string ByteArray.empty, .int .u8 0] 25)) := (Below.refl _ _).alloc (Nat.le_refl _) _
  have co := (hb1.cell (p := ⟨bo, 2, none⟩) hbo).trans ho.cell
  have hrs : ResAt (w.alloc (.cells #[.string s, .string ByteArray.empty, .int .u8 0] 25)) w.heap.size s := ⟨by simp, by simp, by simp, by simp⟩
  have hw1 : w.heap.size < (w.alloc (.cells #[.string s, .string ByteArray.empty, .int .u8 0] 25)).heap.size := by simp
  have HO : Hid (0 < n → ∃ g, ao = some ⟨g, 0, none⟩ ∧ g < w.heap.size ∧ ∀ i, i < n → w.cell? ⟨g, i * 2, none⟩ = some (.pointer (some ⟨L i, 0, none⟩)) ∧ w.cell? ⟨g, i * 2 + 1, none⟩ = some (.int .i64 (M i))) := by
    intro hp
    obtain ⟨g, c, e, h1, h2⟩ := held_cells hown hp
    cases e
    exact ⟨g, rfl, h1, h2⟩
  have HRS : Hid (∀ i, i < n → ResAt w (L i) (nm i)) := hres
  have HC : Hid (OwnAt w bo (.slice ao n cap)) := ho
  clear hown hres ho
  go_enter Try.func17, Try.ntmps17
  go_wp2_with fail
  generalize hW1 : w.alloc (.cells #[.string s, .string ByteArray.empty, .int .u8 0] 25) = W1 at *
  clear hW1
  go_loopg [18] n (fun g s18 wr => ∃ j : Nat, j ≤ n ∧ g = n - j ∧ s18 = .int .i64 j ∧ Below W1.heap.size W1 wr ∧ Hid (∀ x, x < j → nm (rot n fr x) ≠ s))
  case atStart => exact ⟨0, Nat.zero_le _, rfl, rfl, Below.refl _ _, fun x hx => by omega⟩
  case round =>
    obtain ⟨j, hj, rfl, rfl, hbw, hno⟩ := hrel
    have hbw0 : Below w.heap.size w wr := hb1.trans (hbw.mono hb1.size)
    by_cases hlt : j < n
    · have hjz : (j : Int) < (n : Int) := by omega
      go_upto_if 26 with fail
      go_cut [10] (fun s10 wx => wr = wx ∧ ∃ i : Nat, s10 = .int .i64 i ∧ i < n ∧ Hid (i = rot n fr j))
      case first =>
        by_cases hm : n ≤ fr + j
        · go_wp2_with fail
          go_meet
          exact ⟨rfl, fr + j - n, by go_num, by omega, (show _ = _ by unfold rot; rw [if_pos hm])⟩
        · go_wp2_with fail
          go_meet
          exact ⟨rfl, fr + j, by go_num, by omega, (show _ = _ by unfold rot; rw [if_neg hm])⟩
      case rest =>
        obtain ⟨rfl, i, rfl, hin, hir⟩ := hcut
        obtain ⟨g, rfl, hg, hgc⟩ := HO.out (by omega)
        obtain ⟨W2, rfl⟩ : ∃ W2, W2 = wr := ⟨wr, rfl⟩
        have hiz : (i : Int) < (n : Int) := by omega
        have co2 := (hbw.cell (p := ⟨bo, 2, none⟩) (by show bo < _; omega)).trans co
        have p0 := (hbw0.cell (p := ⟨g, i * 2, none⟩) hg).trans (hgc i hin).1
        have p1 := (hbw0.cell (p := ⟨g, i * 2 + 1, none⟩) hg).trans (hgc i hin).2
        have ri := (HRS.out i hin).keep hbw0 (HRS.out i hin).lt
        have rs := hrs.keep hbw hw1
        have hgl : g < W2.heap.size := Nat.lt_of_lt_of_le hg hbw0.size
        clear co hgc
        go_wp2_with fail
        refine wp_region_quiet_in (fun W => Below W2.heap.size W2 W) (by kernel_rfl) (by kernel_rfl) (below_drew W2) ?_
        intro hne0
        have k0 : ∀ W : Among (fun W => Below W2.heap.size W2 W), W.val.cell? ⟨g, i * 2, none⟩ = some (.pointer (some ⟨L i, 0, none⟩)) := fun W => (W.ok.cell (p := ⟨g, i * 2, none⟩) hgl).trans p0
        have k1 : ∀ W : Among (fun W => Below W2.heap.size W2 W), W.val.cell? ⟨L i, 0, none⟩ = some (.string (nm i)) := fun W => (W.ok.cell (p := ⟨L i, 0, none⟩) ri.lt).trans ri.c0
        have k2 : ∀ W : Among (fun W => Below W2.heap.size W2 W), W.val.cell? ⟨L i, 1, none⟩ = some (.string ByteArray.empty) := fun W => (W.ok.cell (p := ⟨L i, 1, none⟩) ri.lt).trans ri.c1
        have k3 : ∀ W : Among (fun W => Below W2.heap.size W2 W), W.val.cell? ⟨L i, 2, none⟩ = some (.int .u8 0) := fun W => (W.ok.cell (p := ⟨L i, 2, none⟩) ri.lt).trans ri.c2
        have k4 : ∀ W : Among (fun W => Below W2.heap.size W2 W), W.val.cell? ⟨w.heap.size, 0, none⟩ = some (.string s) := fun W => (W.ok.cell (p := ⟨w.heap.size, 0, none⟩) rs.lt).trans rs.c0
        have k5 : ∀ W : Among (fun W => Below W2.heap.size W2 W), W.val.cell? ⟨w.heap.size, 1, none⟩ = some (.string ByteArray.empty) := fun W => (W.ok.cell (p := ⟨w.heap.size, 1, none⟩) rs.lt).trans rs.c1
        have k6 : ∀ W : Among (fun W => Below W2.heap.size W2 W), W.val.cell? ⟨w.heap.size, 2, none⟩ = some (.int .u8 0) := fun W => (W.ok.cell (p := ⟨w.heap.size, 2, none⟩) rs.lt).trans rs.c2
        cases hq : ((nm i).toList == s.toList) with
        | true =>
          have HQ : Hid (nm i = s) := bytes_ext (beq_iff_eq.1 hq)
          repeat (go_big_quiet_step ((go_at_call 19; exact Calls.in_below (is19 _ _ _))))
          refine wpQuiet_nil ?_
          rintro W ⟨⟨_, hW⟩, rfl⟩
          clear k0 k1 k2 k3 k4 k5 k6 hne0
          have p2 := (hW.cell (p := ⟨g, i * 2 + 1, none⟩) hgl).trans p1
          have hbW : Below w.heap.size w W := hbw0.trans (hW.mono hbw0.size)
          rw [hq]
          clear hq
          go_wp2_with fail
          go_quiet (fail)
          go_wp2_with fail
          go_ret2
          exact ⟨.inl ⟨i, hin, HQ.out, rfl⟩, hbW.trans ⟨rfl, rfl, rfl, Nat.le_refl _, fun _ _ => rfl⟩⟩
        | false =>
          have HQ : Hid (nm i ≠ s) := fun e => by rw [e] at hq; simp at hq
          repeat (go_big_quiet_step ((go_at_call 19; exact Calls.in_below (is19 _ _ _))))
          refine wpQuiet_nil ?_
          rintro W ⟨⟨_, hW⟩, rfl⟩
          clear k0 k1 k2 k3 k4 k5 k6 hne0
          rw [hq]
          clear hq
          go_wp2_with fail
          go_roundg (n - (j + 1))
          case measure => omega
          case rel =>
            refine ⟨j + 1, by omega, rfl, by go_num, hbw.trans (hW.mono hbw.size), fun x hx => ?_⟩
            by_cases e : x = j
            · subst e; rw [← hir.out]; exact HQ.out
            · exact hno.out x (by omega)
    · have hall : Hid (∀ i, i < n → nm i ≠ s) := fun i hi => by
        have hx : rot n fr (if i < fr then i + n - fr else i - fr) = i := by
          unfold rot
          split <;> split <;> omega
        have := hno.out (if i < fr then i + n - fr else i - fr) (by split <;> omega)
        rwa [hx] at this
      clear hno
      go_wp2_with fail
      go_ret2
      exact ⟨.inr ⟨hall.out, rfl⟩, hbw0⟩
end Go.Proofs.Qxb6603549a
