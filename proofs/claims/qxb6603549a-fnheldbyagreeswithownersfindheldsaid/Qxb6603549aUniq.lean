/-
  'Rows.FnFindHeldOfNameResourceIsTheUniqueHoldingSaid': the law's walk.
-/
import Derived.Test.Qxb6603549aFind
namespace Go.Proofs.Qxb6603549a
open Go.RowKit

/-- A slice of held names: element i the name nm i and the mode md i, below block B. -/
def NamesAt (w : World) (B : Nat) (a : Option Addr) (len : Nat) (nm : Nat → ByteArray) (md : Nat → Int) : Prop :=
  0 < len → ∃ b off, a = some ⟨b, off, none⟩ ∧ b < B ∧ ∀ i, i < len → w.cell? ⟨b, off + i * 2, none⟩ = some (.string (nm i)) ∧ w.cell? ⟨b, off + i * 2 + 1, none⟩ = some (.int .i64 (md i))

theorem NamesAt.keep {w w' : World} {B B' : Nat} {a : Option Addr} {len : Nat} {nm : Nat → ByteArray} {md : Nat → Int} (h : NamesAt w B a len nm md) (hb : Below B w w') (hB : B ≤ B') : NamesAt w' B' a len nm md := by
  intro hl
  obtain ⟨b, off, rfl, h1, h2⟩ := h hl
  exact ⟨b, off, rfl, by omega, fun i hi => ⟨(hb.cell (p := ⟨b, off + i * 2, none⟩) h1).trans (h2 i hi).1, (hb.cell (p := ⟨b, off + i * 2 + 1, none⟩) h1).trans (h2 i hi).2⟩⟩

theorem ownsRow_below {w w' : World} {base : Nat} {v : Value} {n : Nat} {xs : List Value} (h : w.ownsRow base 55 2 v n xs) (hb : Below w.heap.size w w') : w'.ownsRow base 55 2 v n xs := by
  obtain ⟨h1, h2⟩ := h
  refine ⟨h1, ?_⟩
  rcases h2 with h2 | ⟨g, cap, cur, hv, hg, hh, r⟩
  · exact .inl h2
  · exact .inr ⟨g, cap, cur, hv, hg, (hb.block g (Array.getElem?_eq_some_iff.1 hh).1).trans hh, r⟩

theorem LockAt.moved {w w' : World} {b bo base : Nat} {s : ByteArray} {fo : Option Addr} {fm : Int} {om : Option Nat} {v u : Value} {n : Nat} {xs : List Value} (h : LockAt w b s fo fm om) (ho : OwnAt w bo u) (hown : w.ownsRow base 55 2 v n xs) (hm : Moved w w' bo v.ownBlock) : LockAt w' b s fo fm om := by
  have hl := h.lt
  obtain ⟨c, hb, hc⟩ := h
  obtain ⟨c2, hb2, _⟩ := ho
  exact ⟨c, (hm.block b hl (fun e => by rw [e, hb2] at hb; cases hb) (row_ne hown hb (by decide))).trans hb, hc⟩

set_option maxRecDepth 100000 in
set_option maxHeartbeats 400000 in
theorem zz18 (a : Option Addr) (len cap : Nat) (nm : Nat → ByteArray) (md : Nat → Int) (q : ByteArray) (fr : Int) (w : World) (hs : NamesAt w w.heap.size a len nm md) (hlen : len ≤ maxLen) (hsz : ∀ i, i < len → (nm i).size ≤ maxLen) (hq : q.size ≤ maxLen) :
    Calls Try.prog 18 #[.slice a len cap, .string q, .int .i64 fr] w fun e w' => (e = .returned (.bool false) ∨ e = .returned (.bool true)) ∧ w' = w := by
  unfold maxLen at *
  by_cases hbig : 1048576 < len
  · have h1 : (1048576 : Int) < (len : Int) := by omega
    go_enter Try.func18, Try.ntmps18
    go_wp2
    go_ret
    exact ⟨.inl rfl, rfl⟩
  have h1 : (len : Int) ≤ 1048576 := by omega
  go_enter Try.func18, Try.ntmps18
  go_wp2
  go_loopg [7, 8] len (fun g z i wr => ∃ (k : Nat) (t : Int), k ≤ len ∧ g = len - k ∧ i = .int .i64 k ∧ z = .int .i64 t ∧ 0 ≤ t ∧ t ≤ 1048576 ∧ wr = w)
  case atStart => exact ⟨0, len, Nat.zero_le _, by omega, rfl, rfl, by omega, by omega, rfl⟩
  case round =>
    obtain ⟨k, t, hk, rfl, rfl, rfl, ht0, ht1, rfl⟩ := hrel
    by_cases hlt : k < len
    · obtain ⟨b, off, rfl, hb, hc⟩ := hs (by omega)
      have hck := (hc k hlt).1
      have hzk := hsz k hlt
      clear hs hc hsz
      generalize nm k = s at *
      by_cases hbk : 1048576 < s.size
      · have hbk' : (1048576 : Int) < (s.size : Int) := by omega
        go_wp2
        go_ret
        exact ⟨.inl rfl, rfl⟩
      · have hbk' : (s.size : Int) ≤ 1048576 := by omega
        by_cases hbt : 1048576 < t + s.size
        · go_wp2
          go_ret
          exact ⟨.inl rfl, rfl⟩
        · go_wp2
          go_roundg (len - (k + 1))
          case measure => omega
          case rel => exact ⟨k + 1, t + s.size, by omega, rfl, by go_num, rfl, by omega, by omega, rfl⟩
    · clear hs hsz
      go_wp2
      all_goals go_ret
      all_goals simp

/-- The cells of an owner's zero value. -/
def z58 : Array Value := #[.nilFunc, .nilIface, .slice none 0 0, .pointer none, .slice none 0 0, .int .i64 0, .bool false, .pointer none, .int .i64 0, .pointer none, .int .i64 0, .pointer none, .int .i64 0, .pointer none, .int .i64 0]
theorem run_zero58 (W : World) : Sem.run Try.prog (zeroValue 58) W = .ok (.agg z58) W := by kernel_rfl
theorem own_new (W : World) : OwnAt (W.alloc (.cells z58 58)) W.heap.size (.slice none 0 0) := ⟨z58, Deep.blk_alloc_new _ _, rfl⟩

theorem below_drewN {B : Nat} {w : World} (q : Nat) : Below B w (w.drewN q) := ⟨rfl, rfl, rfl, Nat.le_refl _, fun _ _ => rfl⟩

/-- What has been built after k rounds: the owner bo holds, in order, locks on the first k names in their modes. -/
structure Built (w wr : World) (bo k : Nat) (v : Value) (L : Nat → Nat) (nm : Nat → ByteArray) (md : Nat → Int) : Prop where
  own : OwnAt wr bo v
  row : wr.ownsRow (bo + 1) 55 2 v k (hcells L md k)
  locks : ∀ i, i < k → LockAt wr (L i) (nm i) (some ⟨bo, 0, none⟩) (md i) none
  bel : Below bo w wr
  size : bo < wr.heap.size

theorem Built.shape {w wr : World} {bo k : Nat} {v : Value} {L : Nat → Nat} {nm : Nat → ByteArray} {md : Nat → Int} (h : Built w wr bo k v L nm md) : ∃ ao cap, v = .slice ao k cap := by
  rcases h.row.2 with ⟨rfl, rfl⟩ | ⟨g, cap, _, rfl, _⟩
  · exact ⟨none, 0, rfl⟩
  · exact ⟨_, cap, rfl⟩

theorem Built.later {w wr wx : World} {bo k : Nat} {v : Value} {L : Nat → Nat} {nm : Nat → ByteArray} {md : Nat → Int} (h : Built w wr bo k v L nm md) (hb : Below wr.heap.size wr wx) : Built w wx bo k v L nm md :=
  ⟨h.own.of_block (hb.block bo h.size), ownsRow_below h.row hb, fun i hi => (h.locks i hi).of_block (hb.block _ (h.locks i hi).lt), h.bel.trans (hb.mono (Nat.le_of_lt h.size)), Nat.lt_of_lt_of_le h.size hb.size⟩

theorem Built.step {w wr wx : World} {bo k bl g cap' : Nat} {ao : Option Addr} {cap : Nat} {L : Nat → Nat} {nm : Nat → ByteArray} {md : Nat → Int} (h : Built w wr bo k (.slice ao k cap) L nm md) (hl : LockAt wr bl (nm k) (some ⟨bo, 0, none⟩) (md k) none)
    (ho : OwnAt wx bo (.slice (some ⟨g, 0, none⟩) (k + 1) cap')) (hr : wx.ownsRow (bo + 1) 55 2 (.slice (some ⟨g, 0, none⟩) (k + 1) cap') (k + 1) (hcells L md k ++ [.pointer (some ⟨bl, 0, none⟩), .int .i64 (md k)])) (hm : Moved wr wx bo (Value.slice ao k cap).ownBlock) :
    Built w wx bo (k + 1) (.slice (some ⟨g, 0, none⟩) (k + 1) cap') (fun i => if i = k then bl else L i) nm md := by
  refine ⟨ho, ?_, fun i hi => ?_, ?_, Nat.lt_of_lt_of_le h.size hm.size⟩
  · have e : hcells (fun i => if i = k then bl else L i) md (k + 1) = hcells L md k ++ [.pointer (some ⟨bl, 0, none⟩), .int .i64 (md k)] := by
      show hcells (fun i => if i = k then bl else L i) md k ++ [.pointer (some ⟨if k = k then bl else L k, 0, none⟩), .int .i64 (md k)] = _
      rw [if_pos rfl, hcells_congr (L' := L) (M' := md) (fun i hi => ⟨by rw [if_neg (by omega)], rfl⟩)]
    rw [e]
    exact hr
  · by_cases e : i = k
    · subst e
      show LockAt wx (if i = i then bl else L i) _ _ _ _
      rw [if_pos rfl]
      exact hl.moved h.own h.row hm
    · show LockAt wx (if i = k then bl else L i) _ _ _ _
      rw [if_neg e]
      exact (h.locks i (by omega)).moved h.own h.row hm
  · refine h.bel.trans ⟨hm.os, hm.tape, hm.output, hm.size, fun k' hk' => hm.block k' (by have := h.size; omega) (by omega) (fun e => ?_)⟩
    rcases h.row.2 with ⟨e2, _⟩ | ⟨g2, cap2, _, e2, hg2, _⟩
    · rw [e2] at e; simp [Value.ownBlock] at e
    · rw [e2] at e; simp [Value.ownBlock] at e; omega

/-- No two of the first n names are equal. -/
def Dist (nm : Nat → ByteArray) (n : Nat) : Prop := ∀ i j, j < i → i < n → nm i ≠ nm j

set_option maxRecDepth 100000 in
set_option maxHeartbeats 1000000 in
theorem law6 (a : Option Addr) (len cap : Nat) (nm : Nat → ByteArray) (md : Nat → Int) (q : ByteArray) (fr : Int) (w : World) (hs : NamesAt w w.heap.size a len nm md) (hlen : len ≤ maxLen) (hsz : ∀ i, i < len → (nm i).size ≤ maxLen) (hq : q.size ≤ maxLen) :
    Calls Try.prog 6 #[.slice a len cap, .string q, .int .i64 fr] w fun e w' => e = .returned (.bool true) ∧ Below w.heap.size w w' := by
  go_enter Try.func6, Try.ntmps6
  go_wp2_with fail
  refine (zz18 a len cap nm md q fr _ hs hlen hsz hq).mono ?_
  rintro e v1 ⟨rfl | rfl, rfl⟩
  · go_wp2_with fail
    go_ret
    exact ⟨rfl, Below.refl _ _⟩
  unfold maxLen at *
  by_cases g0 : 4096 < len
  · have z0 : (4096 : Int) < (len : Int) := by omega
    go_wp2_with fail
    go_ret
    exact ⟨rfl, Below.refl _ _⟩
  by_cases g1 : 65536 < q.size
  · have z0 : decide ((4096 : Int) < (len : Int)) = false := decide_eq_false (by omega)
    have z1 : (65536 : Int) < (q.size : Int) := by omega
    go_wp2_with fail
    go_ret
    exact ⟨rfl, Below.refl _ _⟩
  have z0 : decide ((4096 : Int) < (len : Int)) = false := decide_eq_false (by omega)
  have z1 : decide ((65536 : Int) < (q.size : Int)) = false := decide_eq_false (by omega)
  go_wp2_with fail
  go_loopg [7, 8] len (fun g z i wr => ∃ (k : Nat) (t : Int), k ≤ len ∧ g = len - k ∧ i = .int .i64 k ∧ z = .int .i64 t ∧ wr = v1)
  case atStart => exact ⟨0, q.size, Nat.zero_le _, by omega, rfl, rfl, rfl⟩
  case round =>
    obtain ⟨k, t, hk, rfl, rfl, rfl, rfl⟩ := hrel
    by_cases hlt : k < len
    · obtain ⟨b, off, rfl, hb, hc⟩ := hs (by omega)
      have hck := (hc k hlt).1
      have hzk := hsz k hlt
      clear hs hc hsz
      generalize nm k = s at *
      go_wp2_with fail
      · go_ret
        exact ⟨rfl, Below.refl _ _⟩
      · go_roundg (len - (k + 1))
        case measure => omega
        case rel => exact ⟨k + 1, _, by omega, rfl, by go_num, rfl, rfl⟩
    · clear hsz
      by_cases f0 : fr < 0
      · clear hs
        go_wp2_with fail
        go_ret
        exact ⟨rfl, Below.refl _ _⟩
      by_cases f1 : (len : Int) < fr
      · have z2 : decide (fr < 0) = false := decide_eq_false (by omega)
        clear hs
        go_wp2_with fail
        go_ret
        exact ⟨rfl, Below.refl _ _⟩
      have z2 : decide (fr < 0) = false := decide_eq_false (by omega)
      have z3 : decide ((len : Int) < fr) = false := decide_eq_false (by omega)
      obtain ⟨fn, rfl⟩ : ∃ fn : Nat, fr = (fn : Int) := ⟨fr.toNat, by omega⟩
      have hfn : fn ≤ len := by omega
      obtain ⟨W0, rfl⟩ : ∃ W0, W0 = wr := ⟨wr, rfl⟩
      go_wp2_with fail
      go_loopg [9] (len - 1) (fun g i wx => ∃ k n : Nat, 1 ≤ k ∧ (k ≤ len ∨ k = 1) ∧ g = len - k ∧ i = .int .i64 k ∧ Hid (Dist nm k) ∧ wx = W0.drewN n)
      case atStart => exact ⟨1, 0, by omega, .inr rfl, rfl, rfl, fun i j h1 h2 => by omega, rfl⟩
      case round =>
        clear hlt hk
        obtain ⟨k, n, hk1, hk2, rfl, rfl, hd, rfl⟩ := hrel
        by_cases hlt : k < len
        · obtain ⟨b, off, rfl, hb, hc⟩ := hs (by omega)
          have hkz : (k : Int) < (len : Int) := by omega
          have ck := (hc k hlt).1
          clear hs
          go_wp2_with fail
          go_loopg [10] k (fun g i wx => ∃ j n : Nat, j ≤ k ∧ g = k - j ∧ i = .int .i64 j ∧ Hid (∀ x, x < j → nm k ≠ nm x) ∧ wx = W0.drewN n)
          case atStart => exact ⟨0, n, Nat.zero_le _, by omega, rfl, fun x hx => by omega, rfl⟩
          case round =>
            obtain ⟨j, n, hj, rfl, rfl, hnj, rfl⟩ := hrel
            by_cases hjk : j < k
            · have hjz : (j : Int) < (len : Int) := by omega
              have hjz2 : (j : Int) < (k : Int) := by omega
              have cj := (hc j (by omega)).1
              clear hc
              cases he : ((nm k).toList == (nm j).toList) with
              | true =>
                go_wp2_with fail
                go_quiet (fail)
                go_wp2_with fail
                go_ret
                exact ⟨rfl, (below_drewN n).trans (below_drewN _)⟩
              | false =>
                have HE : Hid (nm k ≠ nm j) := fun e => by rw [e] at he; simp at he
                go_wp2_with fail
                go_quiet (fail)
                go_wp2_with fail
                go_roundg (k - (j + 1))
                case measure => omega
                case rel =>
                  refine ⟨j + 1, _, by omega, rfl, by go_num, fun x hx => ?_, rfl⟩
                  by_cases e : x = j
                  · subst e; exact HE.out
                  · exact hnj.out x (by omega)
            · clear hc
              go_wp2_with fail
              go_roundg (len - (k + 1))
              case measure => omega
              case rel =>
                refine ⟨k + 1, _, by omega, .inl (by omega), rfl, by go_num, fun x y h1 h2 => ?_, rfl⟩
                by_cases e : x = k
                · subst e; exact hnj.out y (by omega)
                · exact hd.out x y h1 (by omega)
        · have hdn : Hid (Dist nm len) := fun i j h1 h2 => hd.out i j h1 (by omega)
          have hz := run_zero58
          have HSN : Hid (NamesAt W0 W0.heap.size a len nm md) := hs
          have hB0 : Built W0 ((W0.drewN n).alloc (.cells z58 58)) W0.heap.size 0 (.slice none 0 0) (fun _ => 0) nm md :=
            ⟨own_new _, World.ownsRow_nil _ _ _ _, fun i hi => by omega, (below_drewN n).alloc (Nat.le_refl _) _, by simp⟩
          clear hd hs
          go_wp2_with fail
          clear hz
          go_loopg [12] len (fun g i wx => ∃ (k : Nat) (v : Value) (L : Nat → Nat), k ≤ len ∧ g = len - k ∧ i = .int .i64 k ∧ Built W0 wx W0.heap.size k v L nm md)
          case atStart => exact ⟨0, _, _, Nat.zero_le _, rfl, rfl, hB0⟩
          case round =>
            clear hB0 hlt hk1 hk2
            obtain ⟨k, v, L, hk, rfl, rfl, HB⟩ := hrel
            have hsn : NamesAt wr wr.heap.size a len nm md := HSN.out.keep HB.bel (Nat.le_of_lt HB.size)
            obtain ⟨ao, cp, rfl⟩ := HB.shape
            by_cases hlt : k < len
            · obtain ⟨b, off, rfl, hb, hc⟩ := hsn (by omega)
              have c0 := (hc k hlt).1
              have c1 := (hc k hlt).2
              clear hsn hc
              go_wp2_with fail
              refine (name8 (nm k) _).mono ?_
              rintro e w1 ⟨rfl, hb1⟩
              have HB1 := HB.later hb1
              clear HB c0 c1
              go_wp2_with fail
              refine (newlock13 (nm k) _ (md k) none _).mono ?_
              rintro e w2 ⟨bl, rfl, hbl, hl2, hb2⟩
              have HB2 := HB1.later hb2
              clear HB1
              go_wp2_with fail
              refine (hold16 (W0.heap.size + 1) W0.heap.size bl ao k cp (hcells L md k) (md k) _ HB2.own HB2.row (by omega) (by have := HB2.size; omega)).mono ?_
              rintro e w3 ⟨rfl, g, cap', ho3, hr3, _, hm3⟩
              have HB3 := HB2.step hl2 ho3 hr3 hm3
              clear HB2 ho3 hr3 hm3 hl2
              go_wp2_with fail
              go_roundg (len - (k + 1))
              case measure => omega
              case rel => exact ⟨k + 1, _, _, by omega, rfl, by go_num, HB3⟩
            · obtain rfl : len = k := by omega
              obtain ⟨W2, rfl⟩ : ∃ W2, W2 = wr := ⟨wr, rfl⟩
              clear hlt hk
              go_wp2_with fail
              go_loopg [15, 16, 17] len (fun g s15 s16 s17 wx => ∃ (k : Nat) (x y : Int), k ≤ len ∧ g = len - k ∧ s17 = .int .i64 k ∧ s15 = .int .i64 x ∧ s16 = .int .i64 y ∧ wx = W2 ∧ Hid ((∃ i, i < k ∧ nm i = q ∧ x = (i : Int) ∧ y = md i) ∨ (∀ i, i < k → nm i ≠ q) ∧ x = -1 ∧ y = 0))
              case atStart => exact ⟨0, -1, 0, Nat.zero_le _, rfl, rfl, rfl, rfl, rfl, .inr ⟨fun i hi => by omega, rfl, rfl⟩⟩
              case round =>
                obtain ⟨k, x, y, hk, rfl, rfl, rfl, rfl, rfl, hxy⟩ := hrel
                by_cases hlt : k < len
                · obtain ⟨b, off, rfl, hb, hc⟩ := hsn (by omega)
                  have c0 := (hc k hlt).1
                  have c1 := (hc k hlt).2
                  clear hsn hc
                  cases he : ((nm k).toList == q.toList) with
                  | true =>
                    have HE : Hid (nm k = q) := bytes_ext (beq_iff_eq.1 he)
                    go_wp2_with fail
                    go_roundg (len - (k + 1))
                    case measure => omega
                    case rel => exact ⟨k + 1, _, _, by omega, rfl, by go_num, rfl, rfl, rfl, .inl ⟨k, by omega, HE.out, rfl, rfl⟩⟩
                  | false =>
                    have HE : Hid (nm k ≠ q) := fun e => by rw [e] at he; simp at he
                    go_wp2_with fail
                    go_roundg (len - (k + 1))
                    case measure => omega
                    case rel =>
                      refine ⟨k + 1, x, y, by omega, rfl, by go_num, rfl, rfl, rfl, ?_⟩
                      rcases hxy.out with ⟨i, h1, h2, h3, h4⟩ | ⟨h1, h2, h3⟩
                      · exact .inl ⟨i, by omega, h2, h3, h4⟩
                      · refine .inr ⟨fun i hi => ?_, h2, h3⟩
                        by_cases e : i = k
                        · subst e; exact HE.out
                        · exact h1 i (by omega)
                · obtain rfl : len = k := by omega
                  clear hsn
                  go_wp2_with fail
                  refine (name8 q _).mono ?_
                  rintro e w1 ⟨rfl, hb1⟩
                  have HB1 := HB.later hb1
                  clear HB
                  go_wp2_with fail
                  refine (find17 (W0.heap.size + 1) W0.heap.size len fn _ L md nm q _ HB1.own HB1.row (fun i hi => (HB1.locks i hi).res) (by omega) hfn).mono ?_
                  rintro e w2 ⟨hfind, hb2⟩
                  have hbel : Below W0.heap.size W0 w2 := HB1.bel.trans (hb2.mono (Nat.le_of_lt HB1.size))
                  clear HB1
                  obtain ⟨x2, y2, rfl, hx2, hy2⟩ : ∃ x2 y2 : Int, e = .returned (.tuple #[.int .i64 x2, .int .i64 y2]) ∧ x2 = x ∧ y2 = y := by
                    rcases hfind with ⟨i, hi, h1, rfl⟩ | ⟨h1, rfl⟩
                    · rcases hxy.out with ⟨i2, hi2, h2, h3, h4⟩ | ⟨h2, _⟩
                      · have ei : i = i2 := by
                          rcases Nat.lt_trichotomy i i2 with h | h | h
                          · exact absurd (h2.trans h1.symm) (hdn.out i2 i h hi2)
                          · exact h
                          · exact absurd (h1.trans h2.symm) (hdn.out i i2 h hi)
                        subst ei
                        exact ⟨_, _, rfl, h3.symm, h4.symm⟩
                      · exact absurd h1 (h2 i hi)
                    · rcases hxy.out with ⟨i2, hi2, h2, h3, h4⟩ | ⟨_, h3, h4⟩
                      · exact absurd h2 (h1 i2 hi2)
                      · exact ⟨_, _, rfl, h3.symm, h4.symm⟩
                  subst hx2 hy2
                  clear hfind hxy
                  go_wp2_with fail
                  go_ret
                  exact ⟨by simp, hbel⟩
end Go.Proofs.Qxb6603549a
