import Derived.Test.Qxb6602564aStr2
import Derived.Deep.DeepCutAuto
namespace Go.Proofs.Qxb6602564a
open Go.RowKit

theorem bl_cons (a b : UInt8) (x y : List UInt8) : Op.bytesLess (a :: x) (b :: y) = true ↔ (a.toNat < b.toNat ∨ a.toNat = b.toNat ∧ Op.bytesLess x y = true) := by
  rw [Op.bytesLess]
  simp only [Bool.or_eq_true, decide_eq_true_eq, Bool.and_eq_true, beq_iff_eq, UInt8.lt_iff_toNat_lt, ← UInt8.toNat_inj]

theorem bl_asymm : ∀ x y : List UInt8, Op.bytesLess x y = true → ¬ Op.bytesLess y x = true
  | [], [], h => by simp [Op.bytesLess] at h
  | _ :: _, [], h => by simp [Op.bytesLess] at h
  | [], _ :: _, _ => by simp [Op.bytesLess]
  | a :: x, b :: y, h => by
    rw [bl_cons] at h ⊢
    have := bl_asymm x y
    by_cases hc : Op.bytesLess x y = true
    · have := this hc
      rintro (h' | ⟨h1, h2⟩)
      · omega
      · exact this h2
    · rcases h with h | ⟨_, h⟩
      · omega
      · exact absurd h hc

theorem bl_trans : ∀ x y z : List UInt8, ¬ Op.bytesLess y x = true → ¬ Op.bytesLess z y = true → ¬ Op.bytesLess z x = true
  | [], _, z, _, _ => by cases z <;> simp [Op.bytesLess]
  | _ :: _, [], _, h, _ => absurd (by simp [Op.bytesLess]) h
  | _ :: _, _ :: _, [], _, h => absurd (by simp [Op.bytesLess]) h
  | a :: x, b :: y, c :: z, h1, h2 => by
    rw [bl_cons] at h1 h2 ⊢
    have ih := bl_trans x y z
    intro h
    rcases h with h | ⟨h, h'⟩
    · by_cases e1 : b.toNat < a.toNat
      · exact h1 (.inl e1)
      · exact h2 (.inl (by omega))
    · by_cases e1 : b.toNat = a.toNat
      · by_cases g : Op.bytesLess y x = true
        · exact h1 (.inr ⟨e1, g⟩)
        · by_cases g2 : Op.bytesLess z y = true
          · exact h2 (.inr ⟨by omega, g2⟩)
          · exact ih g g2 h'
      · by_cases e2 : b.toNat < a.toNat
        · exact h1 (.inl e2)
        · exact h2 (.inl (by omega))

theorem bl_tri : ∀ x y : List UInt8, ¬ Op.bytesLess x y = true → ¬ Op.bytesLess y x = true → x = y
  | [], [], _, _ => rfl
  | _ :: _, [], _, h => absurd (by simp [Op.bytesLess]) h
  | [], _ :: _, h, _ => absurd (by simp [Op.bytesLess]) h
  | a :: x, b :: y, h1, h2 => by
    rw [bl_cons] at h1 h2
    have e : a.toNat = b.toNat := by
      by_cases g1 : a.toNat < b.toNat
      · exact absurd (.inl g1) h1
      · by_cases g2 : b.toNat < a.toNat
        · exact absurd (.inl g2) h2
        · omega
    have := bl_tri x y (fun g => h1 (.inr ⟨e, g⟩)) (fun g => h2 (.inr ⟨e.symm, g⟩))
    rw [this, UInt8.toNat_inj.1 e]

/-- Go's '<' on strings. -/
def slt (a b : ByteArray) : Bool := Op.bytesLess a.toList b.toList

theorem slt_strict : Pl.Strict slt :=
  ⟨fun a b h => by simpa [slt] using bl_asymm _ _ h, fun a b c h1 h2 => by
    have := bl_trans a.toList b.toList c.toList (by simpa [slt] using h1) (by simpa [slt] using h2)
    simpa [slt] using this⟩

theorem slt_tri (a b : ByteArray) (h1 : slt a b = false) (h2 : slt b a = false) : a = b :=
  bytes_ext (bl_tri _ _ (by simpa [slt] using h1) (by simpa [slt] using h2))

theorem SRow.other {w : World} {b n : Nat} {f : Nat → ByteArray} (h : SRow w b n f) {b' k : Nat} (hb : b ≠ b') (v : Value) : SRow (w.setCell ⟨b', k, none⟩ v) b n f := World.rowIs.setOther h hb v

/-- Two rows of strings that the call has made, side by side. -/
structure Two (w wr : World) (bs bd n : Nat) (f d : Nat → ByteArray) : Prop where
  src : SRow wr bs n f
  dst : SRow wr bd n d
  ne : bs ≠ bd
  s1 : w.heap.size ≤ bs
  d1 : w.heap.size ≤ bd
  bel : Below w.heap.size w wr

theorem Two.store {w wr : World} {bs bd n : Nat} {f d : Nat → ByteArray} (h : Two w wr bs bd n f d) (k : Nat) (s : ByteArray) : Two w (wr.setCell ⟨bd, k, none⟩ (.string s)) bs bd n f (Pl.upd d k s) :=
  ⟨h.src.other h.ne _, h.dst.store k s, h.ne, h.s1, h.d1, h.bel.setCell h.d1 _⟩

theorem Two.swap {w wr : World} {bs bd n : Nat} {f d : Nat → ByteArray} (h : Two w wr bs bd n f d) : Two w wr bd bs n d f := ⟨h.dst, h.src, h.ne.symm, h.d1, h.s1, h.bel⟩

theorem Two.alike {w wr wx : World} {bs bd n : Nat} {f d : Nat → ByteArray} (h : Two w wr bs bd n f d) (e : wx.heap = wr.heap) (e1 : wx.os = wr.os) (e2 : wx.tape = wr.tape) (e3 : wx.output = wr.output) : Two w wx bs bd n f d :=
  ⟨h.src.of_block (by rw [e]), h.dst.of_block (by rw [e]), h.ne, h.s1, h.d1, h.bel.trans ⟨e1, e2, e3, by rw [e]; exact Nat.le_refl _, fun k _ => by rw [e]⟩⟩

set_option maxRecDepth 100000 in
set_option maxHeartbeats 800000 in
theorem sort41 (a : Option Addr) (len cap : Nat) (ss : Nat → ByteArray) (w : World) (hs : StrsAt w w.heap.size a len ss) (hlen : len ≤ 4096) :
    Calls Try.prog 41 #[.slice a len cap] w fun e w' => ∃ nb s, e = .returned (.slice (some ⟨nb, 0, none⟩) len len) ∧ SRow w' nb len s ∧ (Pl.seg s 0 len).Perm (Pl.seg ss 0 len) ∧ Pl.InOrder slt s 0 len ∧
      Below w.heap.size w w' := by
  have hmk := run_make_row' (P := Try.prog) 22 9 (.string ByteArray.empty) 16 Try.underlying22 info9 rfl .i64 .i64 len (by omega) (by omega)
  go_enter Try.func41, Try.ntmps41
  go_wp2
  go_loopg [5] len (fun g i wr => ∃ k : Nat, k ≤ len ∧ g = len - k ∧ i = .int .i64 k ∧ (∃ f, SRow wr w.heap.size len f ∧ ∀ x, x < k → f x = ss x) ∧ Below w.heap.size w wr ∧ wr.heap.size = w.heap.size + 1)
  case atStart => exact ⟨0, Nat.zero_le _, by omega, rfl, ⟨_, World.rowIs_made w (.string ByteArray.empty) len 9, fun x hx => by omega⟩, (Below.refl _ _).alloc (Nat.le_refl _) _, by simp⟩
  case round =>
    obtain ⟨k, hk, rfl, rfl, ⟨f, hrow, hf⟩, hbel, hN⟩ := hrel
    by_cases hlt : k < len
    · obtain ⟨b, off, rfl, hb, hc⟩ := hs (by omega)
      have hck := (hbel.cell (p := ⟨b, off + k, none⟩) hb).trans (hc k hlt)
      have hdk := hrow.cell hlt
      have hfk := hrow.frozen k
      clear hmk hs hc
      go_wp2
      go_roundg (len - (k + 1))
      case measure => omega
      case rel =>
        refine ⟨k + 1, by omega, rfl, by go_num, ⟨_, hrow.store k _, fun x hx => ?_⟩, hbel.setCell (Nat.le_refl _) _, by simpa using hN⟩
        by_cases e : x = k
        · subst e; rw [Pl.upd_at]
        · rw [Pl.upd_ne _ _ e]; exact hf x (by omega)
    · have hrow0 := hrow.as (g := ss) fun i hi => hf i (by omega)
      clear hs hf hrow
      go_wp2
      go_loopg [4, 6, 7] (2 * len) (fun g s4 s6 s7 wx => ∃ (bs bd wd : Nat) (f d : Nat → ByteArray), s4 = .slice (some ⟨bs, 0, none⟩) len len ∧ s6 = .slice (some ⟨bd, 0, none⟩) len len ∧ s7 = .int .i64 wd ∧ 1 ≤ wd ∧ wd ≤ 2 * len + 1 ∧ g = 2 * len + 1 - wd ∧
        Two w wx bs bd len f d ∧ Hid (Pl.Chunks slt f len wd) ∧ Hid ((Pl.seg f 0 len).Perm (Pl.seg ss 0 len)))
      case atStart =>
        refine ⟨w.heap.size, w.heap.size + 1, 1, ss, fun _ => ByteArray.empty, rfl, rfl, rfl, by omega, by omega, by omega, ⟨hrow0.alloc _, ?_, by omega, by omega, by omega, hbel.alloc (by omega) _⟩, Pl.chunks_one _ _ _, List.Perm.refl _⟩
        have := World.rowIs_made wr (.string ByteArray.empty) len 9
        rw [hN] at this
        exact this
      case round =>
        clear hmk hrow0 hbel hN hlt hk
        obtain ⟨bs, bd, wd, f, d, rfl, rfl, rfl, hw1, hw2, rfl, T, hch, hpm⟩ := hrel
        by_cases hwl : wd < len
        · go_wp2
          go_loopg [8] len (fun g s8 wx => ∃ (lo q : Nat) (d : Nat → ByteArray), s8 = .int .i64 lo ∧ lo ≤ len + 2 * wd ∧ g = len - lo ∧ Two w wx bs bd len f d ∧ Hid (Pl.LInv slt f d len wd q lo))
          case atStart => exact ⟨0, 0, d, rfl, by omega, by omega, T, Pl.LInv.start _ _ _ _ _⟩
          case round =>
            clear T
            obtain ⟨lo, q, d, rfl, hlo, rfl, T, hL⟩ := hrel
            by_cases hll : lo < len
            · go_upto_if 49 with fail
              go_cut [9] (fun m wx => wr = wx ∧ ∃ mid : Nat, m = .int .i64 mid ∧ Hid (mid = min (lo + wd) len) ∧ lo ≤ mid ∧ mid ≤ len)
              case first =>
                by_cases hm : len < lo + wd
                · go_wp2_with fail
                  go_meet
                  exact ⟨rfl, len, rfl, (show len = _ by omega), by omega, by omega⟩
                · go_wp2_with fail
                  go_meet
                  exact ⟨rfl, lo + wd, by go_num, (show lo + wd = _ by omega), by omega, by omega⟩
              case rest =>
                obtain ⟨rfl, mid, rfl, hmid, hm1, hm2⟩ := hcut
                go_upto_if 57 with fail
                go_cut [10] (fun m wx => wr = wx ∧ ∃ hi : Nat, m = .int .i64 hi ∧ Hid (hi = min (lo + 2 * wd) len) ∧ hi ≤ len)
                case first =>
                  by_cases hm : len < lo + 2 * wd
                  · go_wp2_with fail
                    go_meet
                    exact ⟨rfl, len, rfl, (show len = _ by omega), by omega⟩
                  · go_wp2_with fail
                    go_meet
                    exact ⟨rfl, lo + 2 * wd, by go_num, (show lo + 2 * wd = _ by omega), by omega⟩
                case rest =>
                  obtain ⟨rfl, hi, rfl, hhi, hh2⟩ := hcut
                  have hmh : mid ≤ hi := by have := hmid.out; have := hhi.out; omega
                  go_wp2_with fail
                  go_loopg [11, 12, 13] (hi - lo) (fun g s11 s12 s13 wx => ∃ (i j k : Nat) (d' : Nat → ByteArray), s11 = .int .i64 i ∧ s12 = .int .i64 j ∧ s13 = .int .i64 k ∧ g = hi - k ∧ Two w wx bs bd len f d' ∧
                    Hid (∀ x, x < lo → d' x = d x) ∧ Hid (Pl.MInv slt f d' lo mid hi i j k))
                  case atStart => exact ⟨lo, mid, lo, d, rfl, rfl, rfl, rfl, T, fun _ _ => rfl, Pl.MInv.start _ _ _ hm1 hmh⟩
                  case round =>
                    clear T
                    obtain ⟨i, j, k, d', rfl, rfl, rfl, rfl, T, hold, hM⟩ := hrel
                    have m1 := hM.out.i1
                    have m2 := hM.out.i2
                    have m3 := hM.out.j1
                    have m4 := hM.out.j2
                    have m5 : k ≤ hi := by have := hM.out.k1; omega
                    have m6 : lo ≤ k := by have := hM.out.k1; omega
                    by_cases hkh : k < hi
                    · have hkz : (k : Int) < (hi : Int) := by omega
                      have hkl : k < len := by omega
                      have cd := T.dst.cell hkl
                      have fd := T.dst.frozen k
                      by_cases hj : j < hi
                      · have hjz : (j : Int) < (hi : Int) := by omega
                        have hjl : j < len := by omega
                        have cj := T.src.cell hjl
                        by_cases hi' : i < mid
                        · have hid : decide ((mid : Int) ≤ (i : Int)) = false := decide_eq_false (by omega)
                          have hil : i < len := by omega
                          have ci := T.src.cell hil
                          cases hc : Op.bytesLess (f j).toList (f i).toList with
                          | true =>
                            go_wp2_with fail
                            go_quiet (fail)
                            go_wp2_with fail
                            go_roundg (hi - (k + 1))
                            case measure => omega
                            case rel => exact ⟨i, j + 1, k + 1, _, rfl, by go_num, by go_num, rfl, (T.store k (f j)).alike rfl rfl rfl rfl, fun x hx => (Pl.upd_ne _ _ (by omega)).trans (hold.out x hx), hM.out.takeJ slt_strict (by rw [hmid.out, hhi.out]; exact Pl.Chunks.right hch.out hL.out.lo1) hj (fun _ => hc)⟩
                          | false =>
                            go_wp2_with fail
                            go_quiet (fail)
                            go_wp2_with fail
                            go_roundg (hi - (k + 1))
                            case measure => omega
                            case rel => exact ⟨i + 1, j, k + 1, _, by go_num, rfl, by go_num, rfl, (T.store k (f i)).alike rfl rfl rfl rfl, fun x hx => (Pl.upd_ne _ _ (by omega)).trans (hold.out x hx), hM.out.takeI slt_strict (by rw [hmid.out]; exact Pl.Chunks.left hch.out hL.out.lo1) hi' (fun _ => hc)⟩
                        · have hid : (mid : Int) ≤ (i : Int) := by omega
                          go_wp2_with fail
                          go_quiet (fail)
                          go_wp2_with fail
                          go_roundg (hi - (k + 1))
                          case measure => omega
                          case rel => exact ⟨i, j + 1, k + 1, _, rfl, by go_num, by go_num, rfl, (T.store k (f j)).alike rfl rfl rfl rfl, fun x hx => (Pl.upd_ne _ _ (by omega)).trans (hold.out x hx), hM.out.takeJ slt_strict (by rw [hmid.out, hhi.out]; exact Pl.Chunks.right hch.out hL.out.lo1) hj (fun h => absurd h hi')⟩
                      · have hjd : decide ((j : Int) < (hi : Int)) = false := decide_eq_false (by omega)
                        have hi' : i < mid := by have := hM.out.k1; omega
                        have hil : i < len := by omega
                        have ci := T.src.cell hil
                        go_wp2_with fail
                        go_quiet (fail)
                        go_wp2_with fail
                        go_roundg (hi - (k + 1))
                        case measure => omega
                        case rel => exact ⟨i + 1, j, k + 1, _, by go_num, rfl, by go_num, rfl, (T.store k (f i)).alike rfl rfl rfl rfl, fun x hx => (Pl.upd_ne _ _ (by omega)).trans (hold.out x hx), hM.out.takeI slt_strict (by rw [hmid.out]; exact Pl.Chunks.left hch.out hL.out.lo1) hi' (fun h => absurd h hj)⟩
                    · go_wp2_with fail
                      go_roundg (len - (lo + 2 * wd))
                      case measure => omega
                      case rel =>
                        have eh := hhi.out
                        have em := hmid.out
                        have ek : k = hi := by omega
                        refine ⟨lo + 2 * wd, q + 1, d', by go_num, by omega, rfl, T, ?_⟩
                        have h := hM.out
                        rw [ek, eh, em] at h
                        exact hL.out.step hll hold.out h
            · go_wp2_with fail
              go_roundg (2 * len + 1 - 2 * wd)
              case measure => omega
              case rel => exact ⟨bd, bs, 2 * wd, d, f, rfl, rfl, by go_num, by omega, by omega, rfl, T.swap, (hL.out.done (by omega)).2, (hL.out.done (by omega)).1.trans hpm.out⟩
        · go_wp2
          go_ret
          exact ⟨bs, f, rfl, T.src, hpm.out, Pl.chunks_whole hch.out (by omega), T.bel⟩

end Go.Proofs.Qxb6602564a
