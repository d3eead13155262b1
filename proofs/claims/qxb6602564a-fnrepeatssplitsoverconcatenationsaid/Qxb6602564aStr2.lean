import Derived.Test.Qxb6602564aStr1
namespace Go.Proofs.Qxb6602564a
open Go.RowKit

theorem bytes_ext {a b : ByteArray} (h : a.toList = b.toList) : a = b := by
  rw [ByteArray.toList_eq, ByteArray.toList_eq] at h
  cases a; cases b
  simp only [ByteArray.mk.injEq]
  exact Array.toList_inj.1 h

theorem beq_bytes_true {a b : ByteArray} (h : a = b) : (a.toList == b.toList) = true := by subst h; simp
theorem beq_bytes_false {a b : ByteArray} (h : ¬ a = b) : (a.toList == b.toList) = false := by
  rw [beq_eq_false_iff_ne]
  exact fun e => h (bytes_ext e)

set_option maxHeartbeats 400000 in
theorem rep40 (a : Option Addr) (len cap : Nat) (ss : Nat → ByteArray) (w : World) (hs : StrsAt w w.heap.size a len ss) (hlen : len ≤ 1048576) (hcap : len ≤ cap) (hcap' : cap ≤ maxLen) :
    Calls Try.prog 40 #[.slice a len cap] w fun e w' => ∃ r : Bool, e = .returned (.bool r) ∧ (r = true ↔ Pl.Rep ss len) ∧ w' = w := by
  unfold maxLen at *
  go_enter Try.func40, Try.ntmps40
  go_wp2
  go_loopg [9] len (fun g i wr => ∃ k : Nat, k ≤ len ∧ g = len - k ∧ i = .int .i64 k ∧ Hid (¬ Pl.Rep ss k) ∧ wr = w)
  case atStart => exact ⟨0, Nat.zero_le _, by omega, rfl, fun ⟨i, j, h1, h2, h3⟩ => by omega, rfl⟩
  case round =>
    obtain ⟨k, hk, rfl, rfl, hno, rfl⟩ := hrel
    by_cases hlt : k < len
    · obtain ⟨b, off, rfl, hb, hc⟩ := hs (by omega)
      have hck := hc k hlt
      clear hs
      go_wp2
      go_loopg [18] k (fun g i wx => ∃ j : Nat, j ≤ k ∧ g = k - j ∧ i = .int .i64 j ∧ Hid (∀ x, x < j → ¬ ss k = ss x) ∧ wx = wr)
      case atStart => exact ⟨0, Nat.zero_le _, by omega, rfl, fun x hx => by omega, rfl⟩
      case round =>
        obtain ⟨j, hj, rfl, rfl, hnj, hw⟩ := hrel
        subst hw
        by_cases hjk : j < k
        · have hcj := hc j (by omega)
          by_cases heq : ss k = ss j
          · have hbq := beq_bytes_true heq
            have H : Hid (ss k = ss j) := heq
            clear hc heq
            go_wp2
            go_ret
            exact ⟨true, rfl, ⟨fun _ => ⟨k, j, hjk, hlt, H.out⟩, fun _ => rfl⟩, rfl⟩
          · have hbq := beq_bytes_false heq
            have H : Hid (¬ ss k = ss j) := heq
            clear hc heq
            go_wp2
            go_roundg (k - (j + 1))
            case measure => omega
            case rel =>
              refine ⟨j + 1, by omega, rfl, by go_num, fun x hx => ?_, rfl⟩
              by_cases e : x = j
              · subst e; exact H.out
              · exact hnj.out x (by omega)
        · clear hc
          go_wp2
          go_roundg (len - (k + 1))
          case measure => omega
          case rel =>
            refine ⟨k + 1, by omega, rfl, by go_num, ?_, rfl⟩
            rintro ⟨x, y, h1, h2, h3⟩
            by_cases e : x = k
            · subst e; exact hnj.out y (by omega) h3
            · exact hno.out ⟨x, y, h1, by omega, h3⟩
    · clear hs
      go_wp2
      go_ret
      have e : k = len := by omega
      subst e
      exact ⟨false, rfl, ⟨fun h => by simp at h, fun h => absurd h hno.out⟩, rfl⟩

set_option maxHeartbeats 400000 in
theorem rep15 (a : Option Addr) (len cap : Nat) (ss : Nat → ByteArray) (w : World) (hs : StrsAt w w.heap.size a len ss) (hlen : len ≤ 1048576) (hcap : len ≤ cap) (hcap' : cap ≤ maxLen) :
    Calls Try.prog 15 #[.slice a len cap] w fun e w' => ∃ r : Bool, e = .returned (.bool r) ∧ (r = true ↔ Pl.Rep ss len) ∧ w' = w := by
  go_enter Try.func15, Try.ntmps15
  go_wp2_with fail
  refine (rep40 a len cap ss _ hs hlen hcap hcap').mono ?_
  rintro e w' ⟨r, rfl, hr, rfl⟩
  have H : Hid (r = true ↔ Pl.Rep ss len) := hr
  clear hr
  go_wp2
  go_ret
  exact ⟨r, rfl, H.out, rfl⟩
end Go.Proofs.Qxb6602564a
