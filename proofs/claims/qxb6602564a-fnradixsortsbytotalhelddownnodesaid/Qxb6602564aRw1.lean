import Derived.Test.Qxb6602564aProg
import Derived.WalkKit
import Derived.WalkSpells
import Derived.WalkLawsBesides
import Derived.Deep.LoopGhost
import Derived.Deep.OwnRows
import Derived.Deep.QuietTactic
import Derived.BigQuiet
import Derived.Deep.DeepCutAuto
import Derived.Test.Qxb6602564aRdx
namespace Go.Proofs.Qxb6602564a
open Go.RowKit

/-- A key as a block of three cells. -/
def kobj (x : Pl.Key) : Obj := .cells #[.int .i64 x.t, .int .i64 x.h, .int .i64 x.n] 62

set_option maxHeartbeats 400000 in
theorem field55_0 (t h n : Int) (w : World) :
    Calls Try.prog 55 #[.agg #[.int .i64 t, .int .i64 h, .int .i64 n], .int .i64 0] w fun e w' => e = .returned (.int .i64 n) ∧ w' = w.alloc (.cells #[.int .i64 t, .int .i64 h, .int .i64 n] 62) := by
  go_enter Try.func55, Try.ntmps55
  go_wp2
  go_ret
  exact ⟨rfl, rfl⟩

set_option maxHeartbeats 400000 in
theorem field55_1 (t h n : Int) (w : World) (h1 : -9223372036854775808 < h) (h2 : h ≤ 9223372036854775807) :
    Calls Try.prog 55 #[.agg #[.int .i64 t, .int .i64 h, .int .i64 n], .int .i64 1] w fun e w' => e = .returned (.int .i64 (-h)) ∧ w' = w.alloc (.cells #[.int .i64 t, .int .i64 h, .int .i64 n] 62) := by
  go_enter Try.func55, Try.ntmps55
  go_wp2
  go_ret
  exact ⟨rfl, rfl⟩

set_option maxHeartbeats 400000 in
theorem field55_2 (t h n : Int) (w : World) :
    Calls Try.prog 55 #[.agg #[.int .i64 t, .int .i64 h, .int .i64 n], .int .i64 2] w fun e w' => e = .returned (.int .i64 t) ∧ w' = w.alloc (.cells #[.int .i64 t, .int .i64 h, .int .i64 n] 62) := by
  go_enter Try.func55, Try.ntmps55
  go_wp2
  go_ret
  exact ⟨rfl, rfl⟩
end Go.Proofs.Qxb6602564a
namespace Go.Proofs.Qxb6602564a
open Go.RowKit

theorem info62 : (Try.prog.info? 62).map (fun i => (i.zero, i.size, i.bytes)) = some (some (.agg #[.int .i64 0, .int .i64 0, .int .i64 0]), 3, 24) := by kernel_rfl
theorem info3 : (Try.prog.info? 3).map (fun i => (i.zero, i.size, i.bytes)) = some (some (.int .i64 0), 1, 8) := by kernel_rfl
theorem cells62 : Try.prog.cellsOf 62 = 3 := by kernel_rfl

/-- Block b is a row of n keys, none frozen, key i being 'F i'. -/
def KRow (w : World) (b n : Nat) (F : Nat → Pl.Key) : Prop :=
  ∃ c : Array Value, w.heap[b]? = some (.cells c 62 (0, 0)) ∧ c.size = n * 3 ∧ ∀ i, i < n → c[i * 3]? = some (.int .i64 (F i).t) ∧ c[i * 3 + 1]? = some (.int .i64 (F i).h) ∧ c[i * 3 + 2]? = some (.int .i64 (F i).n)

theorem run_make_keys (n : Nat) (hn : n ≤ 1048576) (w : World) :
    (Instr.makeSlice 46 (.int .i64 (n : Int)) (.int .i64 (n : Int))).run Try.prog w = .ok (.slice (some ⟨w.heap.size, 0, none⟩) n n) (w.alloc (.cells (madeCells #[.int .i64 0, .int .i64 0, .int .i64 0] (n * 3)) 62)) := by
  obtain ⟨i, hi, hz, hs, hb⟩ := info_parts info62
  have hr := run_make (P := Try.prog) w 46 62 i _ Try.underlying46 hi hz .i64 .i64 n n (by omega) (Int.le_refl _) (by rw [hb]; omega) (by omega)
  simp only [Int.toNat_natCast, hs] at hr
  exact hr

theorem krow_made (n : Nat) (w : World) : KRow (w.alloc (.cells (madeCells #[.int .i64 0, .int .i64 0, .int .i64 0] (n * 3)) 62)) w.heap.size n (fun _ => ⟨0, 0, 0⟩) := by
  refine ⟨_, Deep.blk_alloc_new _ _, size_madeCells _ _, fun i hi => ?_⟩
  have h0 : i * 3 < n * 3 := by omega
  have h1 : i * 3 + 1 < n * 3 := by omega
  have h2 : i * 3 + 2 < n * 3 := by omega
  simp [madeCells, h0, h1, h2, show (i * 3) % 3 = 0 by omega, show (i * 3 + 1) % 3 = 1 by omega, show (i * 3 + 2) % 3 = 2 by omega]

/-- A slice of ints as the walks know it. -/
def IntsAt (w : World) (B : Nat) (a : Option Addr) (len : Nat) (zs : Nat → Int) : Prop :=
  0 < len → ∃ b off, a = some ⟨b, off, none⟩ ∧ b < B ∧ ∀ i, i < len → w.cell? ⟨b, off + i, none⟩ = some (.int .i64 (zs i))

namespace KRow
variable {w : World} {b n : Nat} {F : Nat → Pl.Key}
theorem c0 (h : KRow w b n F) {i : Nat} (hi : i < n) : w.cell? ⟨b, i * 3, none⟩ = some (.int .i64 (F i).t) := by
  obtain ⟨c, hb, _, hc⟩ := h
  simp [World.cell?, hb, (hc i hi).1]
theorem c1 (h : KRow w b n F) {i : Nat} (hi : i < n) : w.cell? ⟨b, i * 3 + 1, none⟩ = some (.int .i64 (F i).h) := by
  obtain ⟨c, hb, _, hc⟩ := h
  simp [World.cell?, hb, (hc i hi).2.1]
theorem c2 (h : KRow w b n F) {i : Nat} (hi : i < n) : w.cell? ⟨b, i * 3 + 2, none⟩ = some (.int .i64 (F i).n) := by
  obtain ⟨c, hb, _, hc⟩ := h
  simp [World.cell?, hb, (hc i hi).2.2]
theorem fz (h : KRow w b n F) (i : Nat) : w.frozen? ⟨b, i, none⟩ = false := by
  obtain ⟨c, hb, _, _⟩ := h
  simp [World.frozen?, hb]
theorem lt (h : KRow w b n F) : b < w.heap.size := by
  obtain ⟨c, hb, _, _⟩ := h
  obtain ⟨hlt, _⟩ := Array.getElem?_eq_some_iff.1 hb
  exact hlt
theorem of_block {w' : World} (h : KRow w b n F) (e : w'.heap[b]? = w.heap[b]?) : KRow w' b n F := by
  obtain ⟨c, hb, r⟩ := h
  exact ⟨c, e.trans hb, r⟩
theorem alloc (h : KRow w b n F) (o : Obj) : KRow (w.alloc o) b n F := h.of_block (Deep.blk_alloc_lt _ _ _ h.lt)
theorem re {G : Nat → Pl.Key} (h : KRow w b n F) (e : ∀ i, i < n → F i = G i) : KRow w b n G := by
  obtain ⟨c, hb, hn, hc⟩ := h
  exact ⟨c, hb, hn, fun i hi => by rw [← e i hi]; exact hc i hi⟩
theorem drew (h : KRow w b n F) : KRow w.drew b n F := h
theorem other (h : KRow w b n F) {a : Addr} (ha : b ≠ a.block) (v : Value) : KRow (w.setCell a v) b n F := h.of_block (Deep.blk_setCell_other _ _ _ _ ha)
theorem put (h : KRow w b n F) {k : Nat} (x : Pl.Key) :
    KRow (((w.setCell ⟨b, k * 3, none⟩ (.int .i64 x.t)).setCell ⟨b, k * 3 + 1, none⟩ (.int .i64 x.h)).setCell ⟨b, k * 3 + 2, none⟩ (.int .i64 x.n)) b n (Pl.upd F k x) := by
  obtain ⟨c, hb, hn, hc⟩ := h
  refine ⟨((c.setIfInBounds (k * 3) (.int .i64 x.t)).setIfInBounds (k * 3 + 1) (.int .i64 x.h)).setIfInBounds (k * 3 + 2) (.int .i64 x.n), ?_, by simpa using hn, fun i hi => ?_⟩
  · simp [World.setCell, Array.getElem?_modify, hb]
  · have s0 : i * 3 < c.size := by omega
    have s1 : i * 3 + 1 < c.size := by omega
    have s2 : i * 3 + 2 < c.size := by omega
    by_cases e : i = k
    · subst e
      rw [Pl.upd_at]
      simp [s0, s1, s2]
    · rw [Pl.upd_ne _ _ e]
      have n1 : ∀ p q, p < 3 → q < 3 → k * 3 + p ≠ i * 3 + q := fun p q _ _ => by omega
      simp only [Array.getElem?_setIfInBounds]
      have a00 := n1 0 0 (by omega) (by omega)
      have a01 := n1 0 1 (by omega) (by omega)
      have a02 := n1 0 2 (by omega) (by omega)
      have a10 := n1 1 0 (by omega) (by omega)
      have a11 := n1 1 1 (by omega) (by omega)
      have a12 := n1 1 2 (by omega) (by omega)
      have a20 := n1 2 0 (by omega) (by omega)
      have a21 := n1 2 1 (by omega) (by omega)
      have a22 := n1 2 2 (by omega) (by omega)
      simp only [Nat.add_zero] at a00 a01 a02 a10 a20
      rw [if_neg a20, if_neg a10, if_neg a00, if_neg a21, if_neg a11, if_neg a01, if_neg a22, if_neg a12, if_neg a02]
      exact hc i hi
end KRow

theorem below_put {B b : Nat} {a w : World} (h : Below B a w) (hb : B ≤ b) (k : Nat) (x y z : Value) : Below B a (((w.setCell ⟨b, k * 3, none⟩ x).setCell ⟨b, k * 3 + 1, none⟩ y).setCell ⟨b, k * 3 + 2, none⟩ z) :=
  ((h.setCell hb _).setCell hb _).setCell hb _

set_option maxHeartbeats 400000 in
theorem deal44 (a : Option Addr) (n cap : Nat) (ts : Nat → Int) (a1 : Option Addr) (cap1 : Nat) (hs : Nat → Int) (a2 : Option Addr) (cap2 : Nat) (ns : Nat → Int) (w : World)
    (h0 : IntsAt w w.heap.size a n ts) (h1 : IntsAt w w.heap.size a1 n hs) (h2 : IntsAt w w.heap.size a2 n ns) (hn : n ≤ 65536) :
    Calls Try.prog 44 #[.slice a n cap, .slice a1 n cap1, .slice a2 n cap2] w fun e w' => e = .returned (.slice (some ⟨w.heap.size, 0, none⟩) n n) ∧ KRow w' w.heap.size n (fun i => ⟨ts i, hs i, ns i⟩) ∧ Below w.heap.size w w' := by
  have hmk := run_make_keys n (by omega)
  go_enter Try.func44, Try.ntmps44
  go_wp2_with fail
  go_loopg [8] n (fun g i wr => ∃ k : Nat, k ≤ n ∧ g = n - k ∧ i = .int .i64 k ∧ (∃ F, KRow wr w.heap.size n F ∧ Hid (∀ x, x < k → F x = ⟨ts x, hs x, ns x⟩)) ∧ Below w.heap.size w wr)
  case atStart => exact ⟨0, Nat.zero_le _, by omega, rfl, ⟨_, krow_made n w, fun x hx => by omega⟩, (Below.refl _ _).alloc (Nat.le_refl _) _⟩
  case round =>
    clear hmk
    obtain ⟨k, hk, rfl, rfl, ⟨F, hrow, hF⟩, hbel⟩ := hrel
    by_cases hlt : k < n
    · obtain ⟨b0, o0, rfl, hb0, hc0⟩ := h0 (by omega)
      obtain ⟨b1, o1, rfl, hb1, hc1⟩ := h1 (by omega)
      obtain ⟨b2, o2, rfl, hb2, hc2⟩ := h2 (by omega)
      have g0 := (hbel.cell (p := ⟨b0, o0 + k, none⟩) hb0).trans (hc0 k hlt)
      have g1 := (hbel.cell (p := ⟨b1, o1 + k, none⟩) hb1).trans (hc1 k hlt)
      have g2 := (hbel.cell (p := ⟨b2, o2 + k, none⟩) hb2).trans (hc2 k hlt)
      have d0 := hrow.c0 hlt
      have d1 := hrow.c1 hlt
      have d2 := hrow.c2 hlt
      have f0 := hrow.fz (k * 3)
      have f1 := hrow.fz (k * 3 + 1)
      have f2 := hrow.fz (k * 3 + 2)
      have hkz : (k : Int) < (n : Int) := by omega
      clear h0 h1 h2 hc0 hc1 hc2
      go_wp2_with fail
      go_region
      go_wp2_with fail
      go_roundg (n - (k + 1))
      case measure => omega
      case rel =>
        refine ⟨k + 1, by omega, rfl, by go_num, ⟨_, (hrow.put (k := k) ⟨ts k, hs k, ns k⟩).drew, fun x hx => ?_⟩, (below_put hbel (Nat.le_refl _) k _ _ _).drew⟩
        by_cases e : x = k
        · subst e; rw [Pl.upd_at]
        · rw [Pl.upd_ne _ _ e]; exact hF.out x (by omega)
    · clear h0 h1 h2
      go_wp2_with fail
      go_ret
      exact ⟨rfl, hrow.re fun i hi => hF.out i (by omega), hbel⟩
end Go.Proofs.Qxb6602564a
