/-
  The smaller callees of the two laws on radix: the guards (21, 30, 42, 43, 22), cloneInts (23), reversedInts (31), sameInts (26), zzB1SplitKeys (46).
-/
import Derived.Test.Qxb6602564aRw1
namespace Go.Proofs.Qxb6602564a
open Go.RowKit

/-- Each of the first n numbers is an int. -/
def Bd (zs : Nat → Int) (n : Nat) : Prop := ∀ i, i < n → -9223372036854775808 ≤ zs i ∧ zs i ≤ 9223372036854775807

/-- No two of the first n numbers lie further apart than the greatest int. -/
def Span (zs : Nat → Int) (n : Nat) : Prop := ∀ i j, i < n → j < n → zs i - zs j ≤ 9223372036854775807

theorem IntsAt.keep {w w' : World} {B B' : Nat} {a : Option Addr} {len : Nat} {zs : Nat → Int} (h : IntsAt w B a len zs) (hb : Below B w w') (hB : B ≤ B') : IntsAt w' B' a len zs := by
  intro hl
  obtain ⟨b, off, rfl, h1, h2⟩ := h hl
  exact ⟨b, off, rfl, by omega, fun i hi => (hb.cell (p := ⟨b, off + i, none⟩) h1).trans (h2 i hi)⟩

/-- A row of ints that a call has made. -/
abbrev IRow (w : World) (b n : Nat) (f : Nat → Int) : Prop := w.rowIs b 3 n (fun i => .int .i64 (f i))

theorem IRow.at {w : World} {b n : Nat} {f : Nat → Int} {B : Nat} (h : IRow w b n f) (hB : b < B) : IntsAt w B (some ⟨b, 0, none⟩) n f :=
  fun _ => ⟨b, 0, rfl, hB, fun i hi => by rw [Nat.zero_add]; exact h.cell hi⟩

theorem IRow.store {w : World} {b n : Nat} {f : Nat → Int} (h : IRow w b n f) (k : Nat) (s : Int) : IRow (w.setCell ⟨b, k, none⟩ (.int .i64 s)) b n (Pl.upd f k s) :=
  (h.set k (.int .i64 s)).congr fun i _ => by unfold Pl.upd; split <;> rfl

theorem IRow.re {w : World} {b n : Nat} {f g : Nat → Int} (h : IRow w b n f) (e : ∀ i, i < n → f i = g i) : IRow w b n g := World.rowIs.congr h fun i hi => by rw [e i hi]

theorem IRow.other {w : World} {b n : Nat} {f : Nat → Int} (h : IRow w b n f) {b' k : Nat} (hb : b ≠ b') (v : Value) : IRow (w.setCell ⟨b', k, none⟩ v) b n f := World.rowIs.setOther h hb v

set_option maxHeartbeats 400000 in
theorem zz30 (a0 a1 a2 : Option Addr) (l0 c0 l1 c1 l2 c2 : Nat) (w : World) (h0 : l0 ≤ maxLen) (h1 : l1 ≤ maxLen) (h2 : l2 ≤ maxLen) :
    Calls Try.prog 30 #[.slice a0 l0 c0, .slice a1 l1 c1, .slice a2 l2 c2] w fun e w' => (e = .returned (.bool false) ∨ e = .returned (.bool true)) ∧ w' = w := by
  unfold maxLen at *
  go_enter Try.func30, Try.ntmps30
  go_wp2
  all_goals go_ret
  all_goals simp

set_option maxHeartbeats 400000 in
theorem zz21 (a0 a1 a2 : Option Addr) (l0 c0 l1 c1 l2 c2 : Nat) (w : World) (h0 : l0 ≤ maxLen) (h1 : l1 ≤ maxLen) (h2 : l2 ≤ maxLen) :
    Calls Try.prog 21 #[.slice a0 l0 c0, .slice a1 l1 c1, .slice a2 l2 c2] w fun e w' => (e = .returned (.bool false) ∨ e = .returned (.bool true)) ∧ w' = w := by
  unfold maxLen at *
  go_enter Try.func21, Try.ntmps21
  go_wp2
  all_goals go_ret
  all_goals simp

set_option maxHeartbeats 400000 in
theorem clone23 (a : Option Addr) (len cap : Nat) (zs : Nat → Int) (w : World) (hs : IntsAt w w.heap.size a len zs) (hlen : len ≤ 65536) :
    Calls Try.prog 23 #[.slice a len cap] w fun e w' => ∃ a' c', e = .returned (.slice a' len c') ∧ IntsAt w' w'.heap.size a' len zs ∧ Below w.heap.size w w' := by
  have hnil := fun w => Lib.run_eql_slice_nil (P := Try.prog) w 26 3 a len cap 0 0 Try.underlying26
  have hmk := run_make_row' (P := Try.prog) 26 3 (.int .i64 0) 8 Try.underlying26 info3 rfl .i64 .i64 len (by omega) (by omega)
  cases a with
  | none =>
    have h0 : len = 0 := by
      refine Nat.eq_zero_of_not_pos fun h => ?_
      obtain ⟨b, off, h, _⟩ := hs h
      cases h
    subst h0
    simp only [Option.isNone_none] at hnil
    go_enter Try.func23, Try.ntmps23
    go_wp2
    go_ret
    exact ⟨none, 0, rfl, fun h => absurd h (by omega), Below.refl _ _⟩
  | some ad =>
    simp only [Option.isNone_some] at hnil
    go_enter Try.func23, Try.ntmps23
    go_wp2
    go_loopg [4] len (fun g i wr => ∃ k : Nat, k ≤ len ∧ g = len - k ∧ i = .int .i64 k ∧ (∃ f, IRow wr w.heap.size len f ∧ Hid (∀ x, x < k → f x = zs x)) ∧ Below w.heap.size w wr ∧ w.heap.size < wr.heap.size)
    case atStart => exact ⟨0, Nat.zero_le _, by omega, rfl, ⟨_, World.rowIs_made w (.int .i64 0) len 3, fun x hx => by omega⟩, (Below.refl _ _).alloc (Nat.le_refl _) _, by simp⟩
    case round =>
      obtain ⟨k, hk, rfl, rfl, ⟨f, hrow, hf⟩, hbel, hN⟩ := hrel
      by_cases hlt : k < len
      · obtain ⟨b, off, e, hb, hc⟩ := hs (by omega)
        cases e
        have hck := (hbel.cell (p := ⟨b, off + k, none⟩) hb).trans (hc k hlt)
        have hdk := hrow.cell hlt
        have hfk := hrow.frozen k
        clear hnil hmk hs hc
        go_wp2
        go_roundg (len - (k + 1))
        case measure => omega
        case rel =>
          refine ⟨k + 1, by omega, rfl, by go_num, ⟨_, hrow.store k _, fun x hx => ?_⟩, hbel.setCell (Nat.le_refl _) _, by simpa using hN⟩
          by_cases e : x = k
          · subst e; rw [Pl.upd_at]
          · rw [Pl.upd_ne _ _ e]; exact hf.out x (by omega)
      · clear hnil hmk
        go_wp2
        go_ret
        exact ⟨_, _, rfl, (hrow.re fun i hi => hf.out i (by omega)).at hN, hbel⟩

set_option maxHeartbeats 400000 in
theorem rev31 (a : Option Addr) (len cap : Nat) (zs : Nat → Int) (w : World) (hs : IntsAt w w.heap.size a len zs) (hlen : len ≤ 65536) :
    Calls Try.prog 31 #[.slice a len cap] w fun e w' => ∃ a' c', e = .returned (.slice a' len c') ∧ IntsAt w' w'.heap.size a' len (fun i => zs (len - 1 - i)) ∧ Below w.heap.size w w' := by
  have hmk := run_make_row' (P := Try.prog) 26 3 (.int .i64 0) 8 Try.underlying26 info3 rfl .i64 .i64 len (by omega) (by omega)
  go_enter Try.func31, Try.ntmps31
  go_wp2
  go_loopg [4] len (fun g i wr => ∃ k : Nat, k ≤ len ∧ g = len - k ∧ i = .int .i64 k ∧ (∃ f, IRow wr w.heap.size len f ∧ Hid (∀ x, x < k → f (len - 1 - x) = zs x)) ∧ Below w.heap.size w wr ∧ w.heap.size < wr.heap.size)
  case atStart => exact ⟨0, Nat.zero_le _, by omega, rfl, ⟨_, World.rowIs_made w (.int .i64 0) len 3, fun x hx => by omega⟩, (Below.refl _ _).alloc (Nat.le_refl _) _, by simp⟩
  case round =>
    obtain ⟨k, hk, rfl, rfl, ⟨f, hrow, hf⟩, hbel, hN⟩ := hrel
    by_cases hlt : k < len
    · obtain ⟨b, off, rfl, hb, hc⟩ := hs (by omega)
      have hck := (hbel.cell (p := ⟨b, off + k, none⟩) hb).trans (hc k hlt)
      have hlt' : len - 1 - k < len := by omega
      have hdk := hrow.cell hlt'
      have hfk := hrow.frozen (len - 1 - k)
      clear hmk hs hc
      go_wp2
      go_roundg (len - (k + 1))
      case measure => omega
      case rel =>
        refine ⟨k + 1, by omega, rfl, by go_num, ⟨_, hrow.store (len - 1 - k) _, fun x hx => ?_⟩, hbel.setCell (Nat.le_refl _) _, by simpa using hN⟩
        by_cases e : x = k
        · subst e; rw [Pl.upd_at]
        · rw [Pl.upd_ne _ _ (by omega)]; exact hf.out x (by omega)
    · clear hmk
      go_wp2
      go_ret
      refine ⟨_, _, rfl, (hrow.re fun i hi => ?_).at hN, hbel⟩
      have := hf.out (len - 1 - i) (by omega)
      rwa [show len - 1 - (len - 1 - i) = i by omega] at this

set_option maxHeartbeats 400000 in
theorem same26 (a : Option Addr) (len cap : Nat) (xs : Nat → Int) (a2 : Option Addr) (cap2 : Nat) (ys : Nat → Int) (w : World) (h1 : IntsAt w w.heap.size a len xs) (h2 : IntsAt w w.heap.size a2 len ys) (hlen : len ≤ 65536) (he : ∀ i, i < len → xs i = ys i) :
    Calls Try.prog 26 #[.slice a len cap, .slice a2 len cap2] w fun e w' => e = .returned (.bool true) ∧ ∃ q, w' = w.drewN q := by
  have HE : Hid (∀ i, i < len → xs i = ys i) := he
  clear he
  have hl0 : ((len : Int) != (len : Int)) = false := by simp
  go_enter Try.func26, Try.ntmps26
  go_wp2_with fail
  go_loopg [5] len (fun g i wr => ∃ k q : Nat, k ≤ len ∧ g = len - k ∧ i = .int .i64 k ∧ wr = w.drewN q)
  case atStart => exact ⟨0, 0, Nat.zero_le _, by omega, rfl, rfl⟩
  case round =>
    obtain ⟨k, q, hk, rfl, rfl, rfl⟩ := hrel
    by_cases hlt : k < len
    · obtain ⟨b, off, rfl, hb, hc⟩ := h1 (by omega)
      obtain ⟨b2, off2, rfl, hb2, hc2⟩ := h2 (by omega)
      have hkz : (k : Int) < (len : Int) := by omega
      have g1 := hc k hlt
      have g2 := hc2 k hlt
      have e := HE.out k hlt
      rw [← e] at g2
      clear e h1 h2 hc hc2 HE
      go_wp2_with fail
      go_quiet (fail)
      go_wp2_with fail
      go_roundg (len - (k + 1))
      case measure => omega
      case rel => exact ⟨k + 1, _, by omega, rfl, by go_num, rfl⟩
    · clear h1 h2
      go_wp2_with fail
      go_ret
      exact ⟨rfl, _, rfl⟩

set_option maxRecDepth 100000 in
set_option maxHeartbeats 800000 in
theorem split46 (b n : Nat) (F : Nat → Pl.Key) (w : World) (hr : KRow w b n F) (hn : n ≤ 65536) :
    Calls Try.prog 46 #[.slice (some ⟨b, 0, none⟩) n n] w fun e w' => ∃ a0 a1 a2, e = .returned (.tuple #[.slice a0 n n, .slice a1 n n, .slice a2 n n]) ∧ IntsAt w' w'.heap.size a0 n (fun i => (F i).t) ∧ IntsAt w' w'.heap.size a1 n (fun i => (F i).h) ∧
      IntsAt w' w'.heap.size a2 n (fun i => (F i).n) ∧ Below w.heap.size w w' := by
  have hmk := run_make_row' (P := Try.prog) 26 3 (.int .i64 0) 8 Try.underlying26 info3 rfl .i64 .i64 n (by omega) (by omega)
  have hbs := hr.lt
  go_enter Try.func46, Try.ntmps46
  go_wp2_with fail
  go_loopg [8] n (fun g i wr => ∃ k : Nat, k ≤ n ∧ g = n - k ∧ i = .int .i64 k ∧ (∃ f0 f1 f2, IRow wr w.heap.size n f0 ∧ IRow wr (w.heap.size + 1) n f1 ∧ IRow wr (w.heap.size + 2) n f2 ∧
    Hid (∀ x, x < k → f0 x = (F x).t ∧ f1 x = (F x).h ∧ f2 x = (F x).n)) ∧ Below w.heap.size w wr ∧ w.heap.size + 2 < wr.heap.size)
  case atStart =>
    have r0 := World.rowIs_made w (.int .i64 0) n 3
    have r1 := World.rowIs_made (w.alloc (.cells (madeCells #[.int .i64 0] n) 3)) (.int .i64 0) n 3
    have r2 := World.rowIs_made ((w.alloc (.cells (madeCells #[.int .i64 0] n) 3)).alloc (.cells (madeCells #[.int .i64 0] n) 3)) (.int .i64 0) n 3
    simp only [World.size_alloc] at r1 r2
    exact ⟨0, Nat.zero_le _, by omega, rfl, ⟨_, _, _, (r0.alloc _).alloc _, r1.alloc _, r2, fun x hx => by omega⟩, (((Below.refl _ _).alloc (Nat.le_refl _) _).alloc (by simp) _).alloc (by simp; omega) _, by simp⟩
  case round =>
    clear hmk
    obtain ⟨k, hk, rfl, rfl, ⟨f0, f1, f2, r0, r1, r2, hf⟩, hbel, hN⟩ := hrel
    by_cases hlt : k < n
    · have g0 := (hbel.cell (p := ⟨b, k * 3, none⟩) hbs).trans (hr.c0 hlt)
      have g1 := (hbel.cell (p := ⟨b, k * 3 + 1, none⟩) hbs).trans (hr.c1 hlt)
      have g2 := (hbel.cell (p := ⟨b, k * 3 + 2, none⟩) hbs).trans (hr.c2 hlt)
      have d0 := r0.cell hlt
      have d1 := r1.cell hlt
      have d2 := r2.cell hlt
      have z0 := r0.frozen k
      have z1 := r1.frozen k
      have z2 := r2.frozen k
      have hne : b ≠ w.heap.size := by omega
      have hne1 : b ≠ w.heap.size + 1 := by omega
      have hne2 : b ≠ w.heap.size + 2 := by omega
      clear hr
      go_wp2_with fail
      go_roundg (n - (k + 1))
      case measure => omega
      case rel =>
        refine ⟨k + 1, by omega, rfl, by go_num, ⟨_, _, _, ((r0.store k _).other (by omega) _).other (by omega) _, ((r1.other (by omega) _).store k _).other (by omega) _, ((r2.other (by omega) _).other (by omega) _).store k _, fun x hx => ?_⟩, ((hbel.setCell (Nat.le_refl _) _).setCell (Nat.le_add_right _ _) _).setCell (Nat.le_add_right _ 2) _, by simpa using hN⟩
        by_cases e : x = k
        · subst e; rw [Pl.upd_at, Pl.upd_at, Pl.upd_at]; exact ⟨rfl, rfl, rfl⟩
        · rw [Pl.upd_ne _ _ e, Pl.upd_ne _ _ e, Pl.upd_ne _ _ e]; exact hf.out x (by omega)
    · go_wp2_with fail
      go_ret3
      exact ⟨_, _, _, rfl, (r0.re fun i hi => (hf.out i (by omega)).1).at (by omega), (r1.re fun i hi => (hf.out i (by omega)).2.1).at (by omega), (r2.re fun i hi => (hf.out i (by omega)).2.2).at (by omega), hbel⟩

set_option maxRecDepth 100000 in
set_option maxHeartbeats 800000 in
theorem span43 (a : Option Addr) (n cap : Nat) (zs : Nat → Int) (w : World) (hs : IntsAt w w.heap.size a n zs) (hpos : 0 < n) (hn : n ≤ 65536) (hbd : Bd zs n) :
    Calls Try.prog 43 #[.slice a n cap] w fun e w' => ∃ r : Bool, e = .returned (.bool r) ∧ (r = true → Span zs n) ∧ w' = w := by
  obtain ⟨b, off, rfl, hb, hc⟩ := hs hpos
  have c0 : w.cell? ⟨b, off, none⟩ = some (.int .i64 (zs 0)) := hc 0 hpos
  have hnz : (0 : Int) < (n : Int) := by omega
  clear hs
  go_enter Try.func43, Try.ntmps43
  go_wp2
  go_loopg [3, 4, 5] (n - 1) (fun g s3 s4 s5 wr => ∃ (k : Nat) (lo hi : Int), 1 ≤ k ∧ k ≤ n ∧ g = n - k ∧ s5 = .int .i64 k ∧ s3 = .int .i64 lo ∧ s4 = .int .i64 hi ∧ -9223372036854775808 ≤ lo ∧ lo ≤ hi ∧ hi ≤ 9223372036854775807 ∧ Hid (∀ x, x < k → lo ≤ zs x ∧ zs x ≤ hi) ∧ wr = w)
  case atStart => exact ⟨1, zs 0, zs 0, by omega, by omega, rfl, rfl, rfl, rfl, (hbd 0 hpos).1, Int.le_refl _, (hbd 0 hpos).2, fun x hx => by rw [show x = 0 by omega]; exact ⟨Int.le_refl _, Int.le_refl _⟩, rfl⟩
  case round =>
    obtain ⟨k, lo, hi, hk1, hk2, rfl, rfl, rfl, rfl, b1, b2, b3, hall, rfl⟩ := hrel
    by_cases hlt : k < n
    · have ck := hc k hlt
      have bk := hbd k hlt
      have HB : Hid (Bd zs n) := hbd
      clear hc hbd c0
      generalize hz : zs k = z at *
      have HZ : Hid (zs k = z) := hz
      clear hz
      go_wp2
      all_goals
        go_roundg (n - (k + 1))
        case measure => omega
        case rel =>
          refine ⟨k + 1, _, _, by omega, by omega, rfl, by go_num, rfl, rfl, by omega, by omega, by omega, fun x hx => ?_, rfl⟩
          by_cases e : x = k
          · subst e; rw [HZ.out]; omega
          · have := hall.out x (by omega); omega
    · clear hc hbd c0
      have hall' : Hid (∀ x, x < n → lo ≤ zs x ∧ zs x ≤ hi) := fun x hx => hall.out x (by omega)
      clear hall
      by_cases hlo : 0 ≤ lo
      · go_wp2
        go_ret
        have hsp : Span zs n := fun i j hi hj => by
          have h1 := hall'.out i hi
          have h2 := hall'.out j hj
          omega
        first | exact ⟨true, rfl, fun _ => hsp, rfl⟩ | exact .inr ⟨rfl, hsp, rfl⟩
      · by_cases hh : hi ≤ 9223372036854775807 + lo
        · go_wp2
          go_ret
          have hsp : Span zs n := fun i j hi hj => by
            have h1 := hall'.out i hi
            have h2 := hall'.out j hj
            omega
          exact .inr ⟨by simp, hsp, rfl⟩
        · go_wp2
          go_ret
          exact .inl ⟨by simp, rfl⟩

set_option maxHeartbeats 400000 in
theorem shaped42 (a0 a1 a2 : Option Addr) (l0 c0 l1 c1 l2 c2 : Nat) (w : World) :
    Calls Try.prog 42 #[.slice a0 l0 c0, .slice a1 l1 c1, .slice a2 l2 c2] w fun e w' => (e = .returned (.bool false) ∨ e = .returned (.bool true) ∧ 0 < l0 ∧ l1 = l0 ∧ l2 = l0) ∧ w' = w := by
  by_cases h0 : 0 < l0
  · by_cases h1 : l1 = l0
    · subst h1
      by_cases h2 : l2 = l1
      · subst h2
        have e0 : (0 : Int) < (l2 : Int) := by omega
        go_enter Try.func42, Try.ntmps42
        go_wp2
        go_ret
        exact ⟨.inr ⟨by simp, h0, by simp, by simp⟩, rfl⟩
      · have e0 : (0 : Int) < (l1 : Int) := by omega
        have e2 : ((l2 : Int) == (l1 : Int)) = false := by simp; omega
        go_enter Try.func42, Try.ntmps42
        go_wp2
        go_ret
        exact ⟨.inl (by simp), rfl⟩
    · have e0 : (0 : Int) < (l0 : Int) := by omega
      have e2 : ((l1 : Int) == (l0 : Int)) = false := by simp; omega
      go_enter Try.func42, Try.ntmps42
      go_wp2
      go_ret
      exact ⟨.inl (by simp), rfl⟩
  · have e0 : decide ((0 : Int) < (l0 : Int)) = false := by simp; omega
    go_enter Try.func42, Try.ntmps42
    go_wp2
    go_ret
    exact ⟨.inl (by simp), rfl⟩

/-- What the guard keysFit leaves in. -/
structure Fits (n l1 l2 : Nat) (ts hs ns : Nat → Int) : Prop where
  pos : 0 < n
  e1 : l1 = n
  e2 : l2 = n
  size : n ≤ 43690
  least : ∀ i, i < n → hs i ≠ -9223372036854775808
  st : Span ts n
  sh : Span hs n
  sn : Span ns n

set_option maxRecDepth 100000 in
set_option maxHeartbeats 800000 in
theorem fit22 (a0 : Option Addr) (l0 c0 : Nat) (ts : Nat → Int) (a1 : Option Addr) (l1 c1 : Nat) (hs : Nat → Int) (a2 : Option Addr) (l2 c2 : Nat) (ns : Nat → Int) (w : World)
    (h0 : IntsAt w w.heap.size a0 l0 ts) (h1 : IntsAt w w.heap.size a1 l1 hs) (h2 : IntsAt w w.heap.size a2 l2 ns) (b0 : Bd ts l0) (b1 : Bd hs l1) (b2 : Bd ns l2) (m0 : l0 ≤ maxLen) (m1 : l1 ≤ maxLen) (m2 : l2 ≤ maxLen) :
    Calls Try.prog 22 #[.slice a0 l0 c0, .slice a1 l1 c1, .slice a2 l2 c2] w fun e w' => (e = .returned (.bool false) ∨ e = .returned (.bool true) ∧ Fits l0 l1 l2 ts hs ns) ∧ w' = w := by
  unfold maxLen at *
  by_cases g0 : 65536 < l0
  · have z0 : (65536 : Int) < (l0 : Int) := by omega
    go_enter Try.func22, Try.ntmps22
    go_wp2_with fail
    go_ret
    exact ⟨.inl rfl, rfl⟩
  by_cases g1 : 65536 < l1
  · have z0 : decide ((65536 : Int) < (l0 : Int)) = false := decide_eq_false (by omega)
    have z1 : (65536 : Int) < (l1 : Int) := by omega
    go_enter Try.func22, Try.ntmps22
    go_wp2_with fail
    go_ret
    exact ⟨.inl rfl, rfl⟩
  by_cases g2 : 65536 < l2
  · have z0 : decide ((65536 : Int) < (l0 : Int)) = false := decide_eq_false (by omega)
    have z1 : decide ((65536 : Int) < (l1 : Int)) = false := decide_eq_false (by omega)
    have z2 : (65536 : Int) < (l2 : Int) := by omega
    go_enter Try.func22, Try.ntmps22
    go_wp2_with fail
    go_ret
    exact ⟨.inl rfl, rfl⟩
  have z0 : decide ((65536 : Int) < (l0 : Int)) = false := decide_eq_false (by omega)
  have z1 : decide ((65536 : Int) < (l1 : Int)) = false := decide_eq_false (by omega)
  have z2 : decide ((65536 : Int) < (l2 : Int)) = false := decide_eq_false (by omega)
  by_cases g3 : 1048576 < 8 * (l0 + l1 + l2)
  · go_enter Try.func22, Try.ntmps22
    go_wp2_with fail
    go_ret
    exact ⟨.inl rfl, rfl⟩
  go_enter Try.func22, Try.ntmps22
  go_wp2_with fail
  refine (shaped42 a0 a1 a2 l0 c0 l1 c1 l2 c2 _).mono ?_
  rintro e w1 ⟨rfl | ⟨rfl, hpos, e1, e2⟩, rfl⟩
  · go_wp2_with fail
    go_ret
    exact ⟨.inl rfl, rfl⟩
  subst e1 e2
  have hsize : l2 ≤ 43690 := by omega
  go_wp2_with fail
  go_loopg [7] l2 (fun g i wr => ∃ k : Nat, k ≤ l2 ∧ g = l2 - k ∧ i = .int .i64 k ∧ Hid (∀ x, x < k → hs x ≠ -9223372036854775808) ∧ wr = w1)
  case atStart => exact ⟨0, Nat.zero_le _, by omega, rfl, fun x hx => by omega, rfl⟩
  case round =>
    obtain ⟨k, hk, rfl, rfl, hno, rfl⟩ := hrel
    by_cases hlt : k < l2
    · obtain ⟨b, off, rfl, hb, hc⟩ := h1 (by omega)
      have ck := hc k hlt
      clear h0 h1 h2 hc b0 b1 b2
      cases hq : (hs k == -9223372036854775808) with
      | true =>
        go_wp2_with fail
        go_ret
        exact ⟨.inl rfl, rfl⟩
      | false =>
        go_wp2_with fail
        go_roundg (l2 - (k + 1))
        case measure => omega
        case rel =>
          refine ⟨k + 1, by omega, rfl, by go_num, fun x hx => ?_, rfl⟩
          by_cases e : x = k
          · subst e; simpa using hq
          · exact hno.out x (by omega)
    · have hno' : Hid (∀ x, x < l2 → hs x ≠ -9223372036854775808) := fun x hx => hno.out x (by omega)
      clear hno
      go_wp2_with fail
      refine (span43 a0 l2 c0 ts _ h0 hpos (by omega) b0).mono ?_
      rintro e w2 ⟨r, rfl, s0, rfl⟩
      have S0 : Hid (r = true → Span ts l2) := s0
      clear s0
      cases r with
      | false =>
        go_wp2_with fail
        go_ret
        exact ⟨.inl rfl, rfl⟩
      | true =>
        go_wp2_with fail
        refine (span43 a1 l2 c1 hs _ h1 hpos (by omega) b1).mono ?_
        rintro e w2 ⟨r, rfl, s1, rfl⟩
        have S1 : Hid (r = true → Span hs l2) := s1
        clear s1
        cases r with
        | false =>
          go_wp2_with fail
          go_ret
          exact ⟨.inl rfl, rfl⟩
        | true =>
          go_wp2_with fail
          refine (span43 a2 l2 c2 ns _ h2 hpos (by omega) b2).mono ?_
          rintro e w2 ⟨r, rfl, s2, rfl⟩
          have S2 : Hid (r = true → Span ns l2) := s2
          clear s2
          cases r with
          | false =>
            go_wp2_with fail
            go_ret
            exact ⟨.inl rfl, rfl⟩
          | true =>
            go_wp2_with fail
            go_ret
            exact ⟨.inr ⟨rfl, hpos, rfl, rfl, hsize, hno'.out, S0.out (by simp), S1.out (by simp), S2.out (by simp)⟩, rfl⟩

end Go.Proofs.Qxb6602564a
