/-
  The callees of FnRepeatsSplitsOverConcatenation: zzBytes (18), pairFits (19), shareValue (20).
-/
import Derived.Test.Qxb6602564aStr2
namespace Go.Proofs.Qxb6602564a
open Go.RowKit

set_option maxRecDepth 100000 in
set_option maxHeartbeats 800000 in
theorem zz18 (a : Option Addr) (len cap : Nat) (ss : Nat → ByteArray) (a2 : Option Addr) (len2 cap2 : Nat) (ss2 : Nat → ByteArray) (w : World) (hs : StrsAt w w.heap.size a len ss) (hlen : len ≤ maxLen) (hsz : ∀ i, i < len → (ss i).size ≤ maxLen)
    (hs2 : StrsAt w w.heap.size a2 len2 ss2) (hlen2 : len2 ≤ maxLen) (hsz2 : ∀ i, i < len2 → (ss2 i).size ≤ maxLen) :
    Calls Try.prog 18 #[.slice a len cap, .slice a2 len2 cap2] w fun e w' => (e = .returned (.bool false) ∨ e = .returned (.bool true)) ∧ w' = w := by
  unfold maxLen at *
  by_cases hbig : 1048576 < len
  · have h1 : (1048576 : Int) < (len : Int) := by omega
    go_enter Try.func18, Try.ntmps18
    go_wp2
    go_ret
    exact ⟨.inl rfl, rfl⟩
  have h1 : (len : Int) ≤ 1048576 := by omega
  go_enter Try.func18, Try.ntmps18
  go_wp2
  go_loopg [5, 6] len (fun g z i wr => ∃ (k : Nat) (t : Int), k ≤ len ∧ g = len - k ∧ i = .int .i64 k ∧ z = .int .i64 t ∧ 0 ≤ t ∧ t ≤ 1048576 ∧ wr = w)
  case atStart => exact ⟨0, len, Nat.zero_le _, by omega, rfl, rfl, by omega, by omega, rfl⟩
  case round =>
    obtain ⟨k, t, hk, rfl, rfl, rfl, ht0, ht1, rfl⟩ := hrel
    by_cases hlt : k < len
    · obtain ⟨b, off, rfl, hb, hc⟩ := hs (by omega)
      have hck := hc k hlt
      have hzk := hsz k hlt
      clear hs hc hsz hs2 hsz2
      generalize ss k = s at *
      by_cases hbk : 1048576 < s.size
      · have hbk' : (1048576 : Int) < (s.size : Int) := by omega
        go_wp2
        go_ret
        exact ⟨.inl rfl, rfl⟩
      · have hbk' : (s.size : Int) ≤ 1048576 := by omega
        by_cases hbt : 1048576 < t + s.size
        · go_wp2
          go_ret
          exact ⟨.inl rfl, rfl⟩
        · go_wp2
          go_roundg (len - (k + 1))
          case measure => omega
          case rel => exact ⟨k + 1, t + s.size, by omega, rfl, by go_num, rfl, by omega, by omega, rfl⟩
    · clear hs hsz
      by_cases hbig2 : 1048576 < len2
      · have h2 : (1048576 : Int) < (len2 : Int) := by omega
        clear hs2 hsz2
        go_wp2
        go_ret
        exact ⟨.inl rfl, rfl⟩
      have h2 : (len2 : Int) ≤ 1048576 := by omega
      by_cases hbt : 1048576 < t + len2
      · clear hs2 hsz2
        go_wp2
        go_ret
        exact ⟨.inl rfl, rfl⟩
      go_wp2
      go_loopg [5, 7] len2 (fun g z i wx => ∃ (k : Nat) (t : Int), k ≤ len2 ∧ g = len2 - k ∧ i = .int .i64 k ∧ z = .int .i64 t ∧ 0 ≤ t ∧ t ≤ 1048576 ∧ wx = wr)
      case atStart => exact ⟨0, t + len2, Nat.zero_le _, by omega, rfl, rfl, by omega, by omega, rfl⟩
      case round =>
        clear hbt ht0 ht1
        obtain ⟨j, t, hk, rfl, rfl, rfl, ht0, ht1, hw⟩ := hrel
        subst hw
        by_cases hlt2 : j < len2
        · obtain ⟨b, off, rfl, hb, hc⟩ := hs2 (by omega)
          have hck := hc j hlt2
          have hzk := hsz2 j hlt2
          clear hs2 hc hsz2
          generalize ss2 j = s at *
          by_cases hbk : 1048576 < s.size
          · have hbk' : (1048576 : Int) < (s.size : Int) := by omega
            go_wp2
            go_ret
            exact ⟨.inl rfl, rfl⟩
          · have hbk' : (s.size : Int) ≤ 1048576 := by omega
            by_cases hbt : 1048576 < t + s.size
            · go_wp2
              go_ret
              exact ⟨.inl rfl, rfl⟩
            · go_wp2
              go_roundg (len2 - (j + 1))
              case measure => omega
              case rel => exact ⟨j + 1, t + s.size, by omega, rfl, by go_num, rfl, by omega, by omega, rfl⟩
        · clear hs2 hsz2
          go_wp2
          go_ret
          exact ⟨.inr rfl, rfl⟩

set_option maxRecDepth 100000 in
set_option maxHeartbeats 800000 in
theorem pair19 (a : Option Addr) (len cap : Nat) (ss : Nat → ByteArray) (a2 : Option Addr) (len2 cap2 : Nat) (ss2 : Nat → ByteArray) (w : World) (hs : StrsAt w w.heap.size a len ss) (hlen : len ≤ maxLen) (hsz : ∀ i, i < len → (ss i).size ≤ maxLen)
    (hs2 : StrsAt w w.heap.size a2 len2 ss2) (hlen2 : len2 ≤ maxLen) (hsz2 : ∀ i, i < len2 → (ss2 i).size ≤ maxLen) :
    Calls Try.prog 19 #[.slice a len cap, .slice a2 len2 cap2] w fun e w' => (e = .returned (.bool false) ∨ e = .returned (.bool true) ∧ len + len2 ≤ 4096) ∧ w' = w := by
  go_enter Try.func19, Try.ntmps19
  go_wp2_with fail
  refine (fit13 a len cap ss _ hs hlen hsz).mono ?_
  rintro e w1 ⟨rfl | ⟨rfl, hl1⟩, rfl⟩
  · go_wp2_with fail
    go_ret
    exact ⟨.inl rfl, rfl⟩
  go_wp2_with fail
  refine (fit13 a2 len2 cap2 ss2 _ hs2 hlen2 hsz2).mono ?_
  rintro e w2 ⟨rfl | ⟨rfl, hl2⟩, rfl⟩
  · go_wp2_with fail
    go_ret
    exact ⟨.inl rfl, rfl⟩
  by_cases hsum : 4096 < len + len2
  · go_wp2_with fail
    go_ret
    exact ⟨.inl rfl, rfl⟩
  unfold maxLen at *
  go_wp2_with fail
  go_loopg [5, 6] len (fun g z i wr => ∃ (k : Nat) (t : Int), k ≤ len ∧ g = len - k ∧ i = .int .i64 k ∧ z = .int .i64 t ∧ wr = w2)
  case atStart => exact ⟨0, 16 * (len + len2), Nat.zero_le _, by omega, rfl, rfl, rfl⟩
  case round =>
    obtain ⟨k, t, hk, rfl, rfl, rfl, rfl⟩ := hrel
    by_cases hlt : k < len
    · obtain ⟨b, off, rfl, hb, hc⟩ := hs (by omega)
      have hck := hc k hlt
      have hzk := hsz k hlt
      clear hs hc hsz hs2 hsz2
      generalize ss k = s at *
      go_wp2
      go_roundg (len - (k + 1))
      case measure => omega
      case rel => exact ⟨k + 1, _, by omega, rfl, by go_num, rfl, rfl⟩
    · clear hs hsz
      go_wp2
      go_loopg [5, 7] len2 (fun g z i wx => ∃ (k : Nat) (t : Int), k ≤ len2 ∧ g = len2 - k ∧ i = .int .i64 k ∧ z = .int .i64 t ∧ wx = wr)
      case atStart => exact ⟨0, t, Nat.zero_le _, by omega, rfl, rfl, rfl⟩
      case round =>
        obtain ⟨j, t, hk, rfl, rfl, rfl, hw⟩ := hrel
        subst hw
        by_cases hlt2 : j < len2
        · obtain ⟨b, off, rfl, hb, hc⟩ := hs2 (by omega)
          have hck := hc j hlt2
          have hzk := hsz2 j hlt2
          clear hs2 hc hsz2
          generalize ss2 j = s at *
          go_wp2
          go_roundg (len2 - (j + 1))
          case measure => omega
          case rel => exact ⟨j + 1, _, by omega, rfl, by go_num, rfl, rfl⟩
        · clear hs2 hsz2
          go_wp2
          go_ret
          cases decide (t ≤ 1048576)
          · exact ⟨.inl rfl, rfl⟩
          · exact ⟨.inr ⟨rfl, by omega⟩, rfl⟩

set_option maxRecDepth 100000 in
set_option maxHeartbeats 800000 in
theorem share20 (a : Option Addr) (len cap : Nat) (ss : Nat → ByteArray) (a2 : Option Addr) (len2 cap2 : Nat) (ss2 : Nat → ByteArray) (w : World) (hs : StrsAt w w.heap.size a len ss) (hlen : len ≤ 4096)
    (hs2 : StrsAt w w.heap.size a2 len2 ss2) (hlen2 : len2 ≤ 4096) :
    Calls Try.prog 20 #[.slice a len cap, .slice a2 len2 cap2] w fun e w' => ∃ r : Bool, e = .returned (.bool r) ∧ (r = true ↔ Pl.Share ss len ss2 len2) ∧ ∃ q, w' = w.drewN q := by
  go_enter Try.func20, Try.ntmps20
  go_wp2_with fail
  go_loopg [5] len (fun g i wr => ∃ k q : Nat, k ≤ len ∧ g = len - k ∧ i = .int .i64 k ∧ Hid (¬ Pl.Share ss k ss2 len2) ∧ wr = w.drewN q)
  case atStart => exact ⟨0, 0, Nat.zero_le _, by omega, rfl, fun ⟨i, j, h1, h2, h3⟩ => by omega, rfl⟩
  case round =>
    obtain ⟨k, q, hk, rfl, rfl, hno, rfl⟩ := hrel
    by_cases hlt : k < len
    · obtain ⟨b, off, rfl, hb, hc⟩ := hs (by omega)
      have hkz : (k : Int) < (len : Int) := by omega
      have hck := hc k hlt
      clear hs hc
      go_wp2_with fail
      go_loopg [6] len2 (fun g i wx => ∃ j q : Nat, j ≤ len2 ∧ g = len2 - j ∧ i = .int .i64 j ∧ Hid (∀ x, x < j → ¬ ss k = ss2 x) ∧ wx = w.drewN q)
      case atStart => exact ⟨0, q, Nat.zero_le _, by omega, rfl, fun x hx => by omega, rfl⟩
      case round =>
        obtain ⟨j, q, hj, rfl, rfl, hnj, rfl⟩ := hrel
        by_cases hjk : j < len2
        · obtain ⟨b2, off2, rfl, hb2, hc2⟩ := hs2 (by omega)
          have hjz : (j : Int) < (len2 : Int) := by omega
          have hcj := hc2 j hjk
          clear hs2 hc2
          by_cases heq : ss k = ss2 j
          · have hbq := beq_bytes_true heq
            have H : Hid (ss k = ss2 j) := heq
            clear heq
            go_wp2_with fail
            go_quiet (fail)
            go_wp2_with fail
            go_ret
            exact ⟨true, rfl, ⟨fun _ => ⟨k, j, hlt, hjk, H.out⟩, fun _ => rfl⟩, _, World.drewN_drewN ..⟩
          · have hbq := beq_bytes_false heq
            have H : Hid (¬ ss k = ss2 j) := heq
            clear heq
            go_wp2_with fail
            go_quiet (fail)
            go_wp2_with fail
            go_roundg (len2 - (j + 1))
            case measure => omega
            case rel =>
              refine ⟨j + 1, _, by omega, rfl, by go_num, fun x hx => ?_, rfl⟩
              by_cases e : x = j
              · subst e; exact H.out
              · exact hnj.out x (by omega)
        · clear hs2
          go_wp2_with fail
          go_roundg (len - (k + 1))
          case measure => omega
          case rel =>
            refine ⟨k + 1, _, by omega, rfl, by go_num, ?_, rfl⟩
            rintro ⟨x, y, h1, h2, h3⟩
            by_cases e : x = k
            · subst e; exact hnj.out y (by omega) h3
            · exact hno.out ⟨x, y, by omega, h2, h3⟩
    · clear hs hs2
      go_wp2_with fail
      go_ret
      have e : k = len := by omega
      subst e
      exact ⟨false, rfl, ⟨fun h => by simp at h, fun h => absurd h hno.out⟩, _, rfl⟩
end Go.Proofs.Qxb6602564a
