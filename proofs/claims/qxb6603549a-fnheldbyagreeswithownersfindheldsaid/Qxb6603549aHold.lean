/-
  Owners, locks, and what an owner holds: new(Owner), ZZnewLock (13), ZZhold (16), FindHeld (17).
-/
import Derived.Test.Qxb6603549aKit
import Derived.Maps.AppendAt
namespace Go.Proofs.Qxb6603549a
open Go.RowKit

theorem info55 : (Try.prog.info? 55).map (fun i => (i.zero, i.size, i.bytes)) = some (some (.agg #[.pointer none, .int .i64 0]), 2, 16) := by kernel_rfl

/-- Block b is an owner whose 'held' is v. -/
def OwnAt (W : World) (b : Nat) (v : Value) : Prop := ∃ c : Array Value, W.heap[b]? = some (.cells c 58 (0, 0)) ∧ c[2]? = some v

theorem OwnAt.cell {W : World} {b : Nat} {v : Value} (h : OwnAt W b v) : W.cell? ⟨b, 2, none⟩ = some v := by
  obtain ⟨c, hb, hc⟩ := h
  simp [World.cell?, hb, hc]
theorem OwnAt.frozen {W : World} {b : Nat} {v : Value} (h : OwnAt W b v) : W.frozen? ⟨b, 2, none⟩ = false := by
  obtain ⟨c, hb, _⟩ := h
  simp [World.frozen?, hb]
theorem OwnAt.lt {W : World} {b : Nat} {v : Value} (h : OwnAt W b v) : b < W.heap.size := by
  obtain ⟨c, hb, _⟩ := h
  exact (Array.getElem?_eq_some_iff.1 hb).1
theorem OwnAt.of_block {W W' : World} {b : Nat} {v : Value} (h : OwnAt W b v) (e : W'.heap[b]? = W.heap[b]?) : OwnAt W' b v := by
  obtain ⟨c, hb, hc⟩ := h
  exact ⟨c, e.trans hb, hc⟩
theorem OwnAt.set {W : World} {b : Nat} {v : Value} (h : OwnAt W b v) (u : Value) : OwnAt (W.setCell ⟨b, 2, none⟩ u) b u := by
  obtain ⟨c, hb, hc⟩ := h
  refine ⟨c.setIfInBounds 2 u, by simp [World.setCell, Array.getElem?_modify, hb], ?_⟩
  have : 2 < c.size := (Array.getElem?_eq_some_iff.1 hc).1
  simp [this]

/-- Block b is a lock: on the name s, its first holder fo in mode fm, the others in the map om. -/
def LockAt (W : World) (b : Nat) (s : ByteArray) (fo : Option Addr) (fm : Int) (om : Option Nat) : Prop :=
  ∃ c : Array Value, W.heap[b]? = some (.cells c 66 (0, 0)) ∧ c[0]? = some (.string s) ∧ c[1]? = some (.string ByteArray.empty) ∧ c[2]? = some (.int .u8 0) ∧ c[4]? = some (.pointer fo) ∧ c[5]? = some (.int .i64 fm) ∧ c[6]? = some (.map om)

theorem LockAt.of_block {W W' : World} {b : Nat} {s : ByteArray} {fo : Option Addr} {fm : Int} {om : Option Nat} (h : LockAt W b s fo fm om) (e : W'.heap[b]? = W.heap[b]?) : LockAt W' b s fo fm om := by
  obtain ⟨c, hb, hc⟩ := h
  exact ⟨c, e.trans hb, hc⟩
theorem LockAt.lt {W : World} {b : Nat} {s : ByteArray} {fo : Option Addr} {fm : Int} {om : Option Nat} (h : LockAt W b s fo fm om) : b < W.heap.size := by
  obtain ⟨c, hb, _⟩ := h
  exact (Array.getElem?_eq_some_iff.1 hb).1

set_option maxHeartbeats 400000 in
theorem newlock13 (s : ByteArray) (fo : Option Addr) (fm : Int) (om : Option Nat) (w : World) :
    Calls Try.prog 13 #[.agg #[.string s, .string ByteArray.empty, .int .u8 0], .pointer fo, .int .i64 fm, .map om] w fun e w' => ∃ b, e = .returned (.pointer (some ⟨b, 0, none⟩)) ∧ w.heap.size ≤ b ∧ LockAt w' b s fo fm om ∧ Below w.heap.size w w' := by
  go_enter Try.func13, Try.ntmps13
  go_wp2
  go_ret
  refine ⟨w.heap.size + 1, rfl, by omega, ⟨#[.string s, .string ByteArray.empty, .int .u8 0, .int .u64 0, .pointer fo, .int .i64 fm, .map om, .pointer none, .pointer none, .pointer none, .pointer none, .int .i64 0], ?_, rfl, rfl, rfl, rfl, rfl, rfl⟩, ((Below.refl _ _).alloc (Nat.le_refl _) _).alloc (by simp) _⟩
  have h := Deep.blk_alloc_new (w.alloc (.cells #[.string s, .string ByteArray.empty, .int .u8 0] 25)) (.cells #[.string s, .string ByteArray.empty, .int .u8 0, .int .u64 0, .pointer fo, .int .i64 fm, .map om, .pointer none, .pointer none, .pointer none, .pointer none, .int .i64 0] 66)
  rw [World.size_alloc] at h
  exact h

/-- Nothing that was there has turned but block bo and one row. -/
structure Moved (w w' : World) (bo : Nat) (row : Option Nat) : Prop where
  os : w'.os = w.os
  tape : w'.tape = w.tape
  output : w'.output = w.output
  size : w.heap.size ≤ w'.heap.size
  block : ∀ k, k < w.heap.size → k ≠ bo → some k ≠ row → w'.heap[k]? = w.heap[k]?

theorem two_new (w : World) (x y : Value) (t : TypeId) : ∀ j u, [x, y][j]? = some u → (w.alloc (.cells #[x, y] t)).cell? ((⟨w.heap.size, 0, none⟩ : Addr).add j) = some u := by
  intro j u hj
  rw [Addr.add_lit, Nat.zero_add, World.cell?_alloc_new]
  match j, hj with
  | 0, hj => simpa using hj
  | 1, hj => simpa using hj

/-- A block that is no row of held locks is not the row that a slice of held locks lies in. -/
theorem row_ne {w : World} {base : Nat} {v : Value} {n : Nat} {xs : List Value} (hown : w.ownsRow base 55 2 v n xs) {k : Nat} {c : Array Value} {t : TypeId} (hb : w.heap[k]? = some (.cells c t (0, 0))) (ht : t ≠ 55) : some k ≠ v.ownBlock := by
  intro e
  rcases hown.2 with ⟨rfl, _⟩ | ⟨g, cap, cur, rfl, _, hg, _⟩
  · simp [Value.ownBlock] at e
  · simp [Value.ownBlock] at e
    subst e
    rw [hb] at hg
    cases hg
    exact ht rfl

theorem row_shape {w : World} {base : Nat} {v : Value} {n : Nat} {xs : List Value} (hown : w.ownsRow base 55 2 v (n + 1) xs) : ∃ g cap, v = .slice (some ⟨g, 0, none⟩) (n + 1) cap := by
  rcases hown.2 with ⟨_, h⟩ | ⟨g, cap, cur, rfl, _⟩
  · omega
  · exact ⟨g, cap, rfl⟩

theorem OwnAt.grown {w w' : World} {b base : Nat} {v u : Value} {n : Nat} {xs : List Value} (h : OwnAt w b u) (hown : w.ownsRow base 55 2 v n xs) (hg : w.grownBy w' v.ownBlock) : OwnAt w' b u := by
  obtain ⟨c, hb, hc⟩ := h
  exact OwnAt.of_block ⟨c, hb, hc⟩ (hg.block b (Array.getElem?_eq_some_iff.1 hb).1 (row_ne hown hb (by decide)))

set_option maxRecDepth 100000 in
set_option maxHeartbeats 400000 in
theorem hold16 (base bo bl : Nat) (ao : Option Addr) (n cap : Nat) (xs : List Value) (m : Int) (w : World) (ho : OwnAt w bo (.slice ao n cap)) (hown : w.ownsRow base 55 2 (.slice ao n cap) n xs) (hn : n ≤ 65536) (hbase : base ≤ w.heap.size) :
    Calls Try.prog 16 #[.pointer (some ⟨bo, 0, none⟩), .pointer (some ⟨bl, 0, none⟩), .int .i64 m] w fun e w' => e = .returned (.tuple #[]) ∧ ∃ g cap', OwnAt w' bo (.slice (some ⟨g, 0, none⟩) (n + 1) cap') ∧
      w'.ownsRow base 55 2 (.slice (some ⟨g, 0, none⟩) (n + 1) cap') (n + 1) (xs ++ [.pointer (some ⟨bl, 0, none⟩), .int .i64 m]) ∧ (some g = (Value.slice ao n cap).ownBlock ∨ w.heap.size ≤ g) ∧ Moved w w' bo (Value.slice ao n cap).ownBlock := by
  obtain ⟨i0, hi, hz0, hz1, hz2⟩ := info_parts info55
  have co := ho.cell
  have fo := ho.frozen
  go_enter Try.func16, Try.ntmps16
  go_wp2_with (at_builtin; refine wpList_append_own_at _ rfl _ _ 51 rfl base 55 i0 (.agg #[.pointer none, .int .i64 0]) 2 16 Try.underlying51 hi hz0 hz1 hz2 rfl (by decide) _ n xs rfl (hown.alloc _) ⟨w.heap.size, 0, none⟩ 1 1 [.pointer (some ⟨bl, 0, none⟩), .int .i64 m] rfl rfl (two_new _ _ _ _) (by simp [Value.oneCell']) (by unfold maxLen; omega) (by omega) (by simp; omega) ?_; intro v' w1 hown' hgrow hnil hloc; clear hnil; obtain ⟨g, cap', hv'⟩ := row_shape hown'; rw [hv'] at hown' hloc; rw [hv']; have ho1 := (ho.of_block (Deep.blk_alloc_lt _ (.cells #[.pointer (some ⟨bl, 0, none⟩), .int .i64 m] 55) _ ho.lt)).grown (hown.alloc _) hgrow; have co1 := ho1.cell; have fo1 := ho1.frozen; clear hv')
  go_end0
  refine ⟨rfl, g, cap', ho1.set _, ?_, ?_, ?_⟩
  · obtain ⟨h1, h2⟩ := hown'
    refine ⟨h1, ?_⟩
    rcases h2 with ⟨h2, h3⟩ | ⟨g2, cap2, cur, e, hg, hh, r⟩
    · exact .inl ⟨h2, h3⟩
    · refine .inr ⟨g2, cap2, cur, e, hg, ?_, r⟩
      obtain ⟨c, hb, _⟩ := ho1
      rw [Below.heap_setCell _ _ _ _ (fun e2 => by rw [e2] at hh; rw [hb] at hh; cases hh)]
      exact hh
  · rcases hloc with h | h
    · exact .inl h
    · simp [Value.ownBlock] at h
      exact .inr (by omega)
  · refine ⟨hgrow.os, hgrow.tape, hgrow.output, by have := hgrow.size; simp at this ⊢; omega, fun k hk hkb hkr => ?_⟩
    rw [Below.heap_setCell _ _ _ _ hkb, hgrow.block k (by simp; omega) hkr]
    exact Deep.blk_alloc_lt _ _ _ hk
end Go.Proofs.Qxb6603549a
