import Derived.Test.Qxb6602564aProg
import Derived.WalkKit
import Derived.WalkSpells
import Derived.WalkLawsBesides
import Derived.Deep.LoopGhost
import Derived.Deep.OwnRows
import Derived.Test.Qxb6602564aPlain
import Derived.Deep.QuietTactic
import Derived.BigQuiet
namespace Go.Proofs.Qxb6602564a
open Go.RowKit

/-- A slice of strings as the walks know it: of 'len' elements, element i the string 'ss i', all below block B. -/
def StrsAt (w : World) (B : Nat) (a : Option Addr) (len : Nat) (ss : Nat → ByteArray) : Prop :=
  0 < len → ∃ b off, a = some ⟨b, off, none⟩ ∧ b < B ∧ ∀ i, i < len → w.cell? ⟨b, off + i, none⟩ = some (.string (ss i))

set_option maxHeartbeats 400000 in
theorem zz12 (a : Option Addr) (len cap : Nat) (ss : Nat → ByteArray) (w : World) (hs : StrsAt w w.heap.size a len ss) (hlen : len ≤ maxLen) (hsz : ∀ i, i < len → (ss i).size ≤ maxLen) :
    Calls Try.prog 12 #[.slice a len cap] w fun e w' => (e = .returned (.bool false) ∨ e = .returned (.bool true)) ∧ w' = w := by
  unfold maxLen at *
  by_cases hbig : 1048576 < len
  · have h1 : (1048576 : Int) < (len : Int) := by omega
    go_enter Try.func12, Try.ntmps12
    go_wp2
    go_ret
    exact ⟨.inl rfl, rfl⟩
  have h1 : (len : Int) ≤ 1048576 := by omega
  go_enter Try.func12, Try.ntmps12
  go_wp2
  go_loopg [3, 4] len (fun g z i wr => ∃ (k : Nat) (t : Int), k ≤ len ∧ g = len - k ∧ i = .int .i64 k ∧ z = .int .i64 t ∧ 0 ≤ t ∧ t ≤ 1048576 ∧ wr = w)
  case atStart => exact ⟨0, len, Nat.zero_le _, by omega, rfl, rfl, by omega, by omega, rfl⟩
  case round =>
    obtain ⟨k, t, hk, rfl, rfl, rfl, ht0, ht1, rfl⟩ := hrel
    by_cases hlt : k < len
    · obtain ⟨b, off, rfl, hb, hc⟩ := hs (by omega)
      have hck := hc k hlt
      have hzk := hsz k hlt
      clear hs hc hsz
      generalize ss k = s at *
      by_cases hbk : 1048576 < s.size
      · have hbk' : (1048576 : Int) < (s.size : Int) := by omega
        go_wp2
        go_ret
        exact ⟨.inl rfl, rfl⟩
      · have hbk' : (s.size : Int) ≤ 1048576 := by omega
        by_cases hbt : 1048576 < t + s.size
        · go_wp2
          go_ret
          exact ⟨.inl rfl, rfl⟩
        · go_wp2
          go_roundg (len - (k + 1))
          case measure => omega
          case rel => exact ⟨k + 1, t + s.size, by omega, rfl, by go_num, rfl, by omega, by omega, rfl⟩
    · clear hs hsz
      go_wp2
      go_ret
      exact ⟨.inr rfl, rfl⟩

theorem StrsAt.keep {w w' : World} {B B' : Nat} {a : Option Addr} {len : Nat} {ss : Nat → ByteArray} (h : StrsAt w B a len ss) (hb : Below B w w') (hB : B ≤ B') : StrsAt w' B' a len ss := by
  intro hl
  obtain ⟨b, off, rfl, h1, h2⟩ := h hl
  exact ⟨b, off, rfl, by omega, fun i hi => (hb.cell (p := ⟨b, off + i, none⟩) h1).trans (h2 i hi)⟩

theorem info9 : (Try.prog.info? 9).map (fun i => (i.zero, i.size, i.bytes)) = some (some (.string ByteArray.empty), 1, 16) := by kernel_rfl

set_option maxHeartbeats 400000 in
theorem fit13 (a : Option Addr) (len cap : Nat) (ss : Nat → ByteArray) (w : World) (hs : StrsAt w w.heap.size a len ss) (hlen : len ≤ maxLen) (hsz : ∀ i, i < len → (ss i).size ≤ maxLen) :
    Calls Try.prog 13 #[.slice a len cap] w fun e w' => (e = .returned (.bool false) ∨ e = .returned (.bool true) ∧ len ≤ 4096) ∧ w' = w := by
  unfold maxLen at *
  by_cases hbig : 4096 < len
  · have h1 : (4096 : Int) < (len : Int) := by omega
    go_enter Try.func13, Try.ntmps13
    go_wp2
    go_ret
    exact ⟨.inl rfl, rfl⟩
  have h1 : (len : Int) ≤ 4096 := by omega
  go_enter Try.func13, Try.ntmps13
  go_wp2
  go_loopg [3, 4] len (fun g z i wr => ∃ (k : Nat) (t : Int), k ≤ len ∧ g = len - k ∧ i = .int .i64 k ∧ z = .int .i64 t ∧ 0 ≤ t ∧ t ≤ 1048576 ∧ wr = w)
  case atStart => exact ⟨0, 16 * len, Nat.zero_le _, by omega, rfl, rfl, by omega, by omega, rfl⟩
  case round =>
    obtain ⟨k, t, hk, rfl, rfl, rfl, ht0, ht1, rfl⟩ := hrel
    by_cases hlt : k < len
    · obtain ⟨b, off, rfl, hb, hc⟩ := hs (by omega)
      have hck := hc k hlt
      have hzk := hsz k hlt
      clear hs hc hsz
      generalize ss k = s at *
      by_cases hbk : 1048576 < s.size
      · have hbk' : (1048576 : Int) < (s.size : Int) := by omega
        go_wp2
        go_ret
        exact ⟨.inl rfl, rfl⟩
      · have hbk' : (s.size : Int) ≤ 1048576 := by omega
        by_cases hbt : 1048576 < t + s.size
        · go_wp2
          go_ret
          exact ⟨.inl rfl, rfl⟩
        · go_wp2
          go_roundg (len - (k + 1))
          case measure => omega
          case rel => exact ⟨k + 1, t + s.size, by omega, rfl, by go_num, rfl, by omega, by omega, rfl⟩
    · clear hs hsz
      go_wp2
      go_ret
      exact ⟨.inr ⟨rfl, by omega⟩, rfl⟩

/-- A row of strings that a call has made. -/
abbrev SRow (w : World) (b n : Nat) (f : Nat → ByteArray) : Prop := w.rowIs b 9 n (fun i => .string (f i))

theorem SRow.at {w : World} {b n : Nat} {f : Nat → ByteArray} {B : Nat} (h : SRow w b n f) (hB : b < B) : StrsAt w B (some ⟨b, 0, none⟩) n f :=
  fun _ => ⟨b, 0, rfl, hB, fun i hi => by rw [Nat.zero_add]; exact h.cell hi⟩

theorem SRow.store {w : World} {b n : Nat} {f : Nat → ByteArray} (h : SRow w b n f) (k : Nat) (s : ByteArray) : SRow (w.setCell ⟨b, k, none⟩ (.string s)) b n (Pl.upd f k s) :=
  (h.set k (.string s)).congr fun i _ => by unfold Pl.upd; split <;> rfl

theorem SRow.as {w : World} {b n : Nat} {f g : Nat → ByteArray} (h : SRow w b n f) (e : ∀ i, i < n → f i = g i) : SRow w b n g := World.rowIs.congr h fun i hi => by rw [e i hi]

set_option maxHeartbeats 400000 in
theorem clone14 (a : Option Addr) (len cap : Nat) (ss : Nat → ByteArray) (w : World) (hs : StrsAt w w.heap.size a len ss) (hlen : len ≤ 1048576) :
    Calls Try.prog 14 #[.slice a len cap] w fun e w' => ∃ a' c', e = .returned (.slice a' len c') ∧ len ≤ c' ∧ c' ≤ maxLen ∧ StrsAt w' w'.heap.size a' len ss ∧ Below w.heap.size w w' := by
  have hnil := fun w => Lib.run_eql_slice_nil (P := Try.prog) w 22 9 a len cap 0 0 Try.underlying22
  have hmk := run_make_row' (P := Try.prog) 22 9 (.string ByteArray.empty) 16 Try.underlying22 info9 rfl .i64 .i64 len (by omega) (by omega)
  cases a with
  | none =>
    have h0 : len = 0 := by
      refine Nat.eq_zero_of_not_pos fun h => ?_
      obtain ⟨b, off, h, _⟩ := hs h
      cases h
    subst h0
    simp only [Option.isNone_none] at hnil
    go_enter Try.func14, Try.ntmps14
    go_wp2
    go_ret
    exact ⟨none, 0, rfl, Nat.le_refl _, Nat.zero_le _, fun h => absurd h (by omega), Below.refl _ _⟩
  | some ad =>
    simp only [Option.isNone_some] at hnil
    go_enter Try.func14, Try.ntmps14
    go_wp2
    go_loopg [4] len (fun g i wr => ∃ k : Nat, k ≤ len ∧ g = len - k ∧ i = .int .i64 k ∧ (∃ f, SRow wr w.heap.size len f ∧ ∀ x, x < k → f x = ss x) ∧ Below w.heap.size w wr ∧ w.heap.size < wr.heap.size)
    case atStart => exact ⟨0, Nat.zero_le _, by omega, rfl, ⟨_, World.rowIs_made w (.string ByteArray.empty) len 9, fun x hx => by omega⟩, (Below.refl _ _).alloc (Nat.le_refl _) _, by simp⟩
    case round =>
      obtain ⟨k, hk, rfl, rfl, ⟨f, hrow, hf⟩, hbel, hN⟩ := hrel
      by_cases hlt : k < len
      · obtain ⟨b, off, e, hb, hc⟩ := hs (by omega)
        cases e
        have hck := (hbel.cell (p := ⟨b, off + k, none⟩) hb).trans (hc k hlt)
        have hdk := hrow.cell hlt
        have hfk := hrow.frozen k
        clear hnil hmk hs hc
        go_wp2
        go_roundg (len - (k + 1))
        case measure => omega
        case rel =>
          refine ⟨k + 1, by omega, rfl, by go_num, ⟨_, hrow.store k _, fun x hx => ?_⟩, hbel.setCell (Nat.le_refl _) _, by simpa using hN⟩
          by_cases e : x = k
          · subst e; rw [Pl.upd_at]
          · rw [Pl.upd_ne _ _ e]; exact hf x (by omega)
      · clear hnil hmk
        go_wp2
        go_ret
        exact ⟨_, _, rfl, Nat.le_refl _, by unfold maxLen; omega, (hrow.as fun i hi => hf i (by omega)).at hN, hbel⟩

end Go.Proofs.Qxb6602564a
