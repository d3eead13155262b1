/-
  What FnHeldByAgreesWithOwnersFindHeld builds: owners that hold one or two locks.
-/
import Derived.Test.Qxb6603549aTab4
namespace Go.Proofs.Qxb6603549a
open Go.RowKit

/-- How many locks the pool's owner i holds. -/
def cnt (n i : Nat) : Nat := if i < n then 2 else 1

/-- Owner o holds lock bs in mode 0 and then, where c is 2, lock bl in mode m. -/
def Held (W : World) (o bs bl : Nat) (m : Int) (c : Nat) : Prop :=
  ∃ v, OwnAt W o v ∧ W.ownsRow 0 55 2 v c (hcells (fun j => if j = 0 then bs else bl) (fun j => if j = 0 then 0 else m) c)

theorem Held.keep {W W' : World} {o bs bl : Nat} {m : Int} {c : Nat} (h : Held W o bs bl m c) (hb : Below W.heap.size W W') : Held W' o bs bl m c := by
  obtain ⟨v, h1, h2⟩ := h
  exact ⟨v, h1.of_block (hb.block _ h1.lt), ownsRow_below h2 hb⟩

theorem OwnAt.moved {W W' : World} {o bo : Nat} {v : Value} (h : OwnAt W o v) (hne : o ≠ bo) (hm : Moved W W' bo none) : OwnAt W' o v :=
  h.of_block (hm.block o h.lt hne (fun e => by cases e))

theorem Held.moved {W W' : World} {o bo bs bl : Nat} {m : Int} {c : Nat} {u : Value} (h : Held W o bs bl m c) (hne : o ≠ bo) (ho : OwnAt W bo u) (hm : Moved W W' bo none) : Held W' o bs bl m c := by
  obtain ⟨v, h1, h2, h3⟩ := h
  refine ⟨v, h1.moved hne hm, h2, ?_⟩
  rcases h3 with h3 | ⟨g, cap, cur, hv, hg, hh, r⟩
  · exact .inl h3
  · refine .inr ⟨g, cap, cur, hv, hg, ?_, r⟩
    obtain ⟨c2, hb2, _⟩ := ho
    exact (hm.block g (Array.getElem?_eq_some_iff.1 hh).1 (fun e => by rw [e, hb2] at hh; cases hh) (fun e => by cases e)).trans hh

theorem MapIs.moved {W W' : World} {bo : Nat} {u : Value} {om : Option Nat} {ps : List (Nat × Int)} (h : MapIs W om ps) (ho : OwnAt W bo u) (hm : Moved W W' bo none) : MapIs W' om ps := by
  rcases h with h | ⟨bm, es, clock, h1, h2, h3⟩
  · exact .inl h
  · obtain ⟨c2, hb2, _⟩ := ho
    exact .inr ⟨bm, es, clock, h1, (hm.block bm (Array.getElem?_eq_some_iff.1 h2).1 (fun e => by rw [e, hb2] at h2; cases h2) (fun e => by cases e)).trans h2, h3⟩

theorem Tab.moved {W W' : World} {bl bp n bo : Nat} {A : Nat → Int × Bool} {s : ByteArray} {u : Value} (h : Tab W bl bp n A s) (ho : OwnAt W bo u) (hm : Moved W W' bo none) : Tab W' bl bp n A s := by
  obtain ⟨f, fm, om, ps, h1, h2⟩ := h
  refine ⟨f, fm, om, ps, ?_, h2.map.moved ho hm, h2.first, h2.others, h2.says⟩
  have hl := h1.lt
  obtain ⟨c, hb, hc⟩ := h1
  obtain ⟨c2, hb2, _⟩ := ho
  exact ⟨c, (hm.block bl hl (fun e => by rw [e, hb2] at hb; cases hb) (fun e => by cases e)).trans hb, hc⟩

theorem Moved.two {W W1 W2 : World} {bo g : Nat} (h1 : Moved W W1 bo none) (h2 : Moved W1 W2 bo (some g)) (hg : W.heap.size ≤ g) : Moved W W2 bo none :=
  ⟨h2.os.trans h1.os, h2.tape.trans h1.tape, h2.output.trans h1.output, Nat.le_trans h1.size h2.size, fun k hk hb hn => (h2.block k (Nat.lt_of_lt_of_le hk h1.size) hb (fun e => by have := Option.some.inj e; omega)).trans (h1.block k hk hb hn)⟩

theorem below_moved {w W W' : World} {B bo : Nat} (h : Below B w W) (hm : Moved W W' bo none) (h1 : B ≤ bo) (h2 : B ≤ W.heap.size) : Below B w W' :=
  h.trans ⟨hm.os, hm.tape, hm.output, hm.size, fun k hk => hm.block k (by omega) (by omega) (fun e => by cases e)⟩

theorem Tab.res {W : World} {bl bp n : Nat} {A : Nat → Int × Bool} {s : ByteArray} (h : Tab W bl bp n A s) : ResAt W bl s := by
  obtain ⟨_, _, _, _, h1, _⟩ := h
  exact h1.res

/-- The state after k owners hold what they are to hold. -/
structure St (w W : World) (bp n bs bl : Nat) (md : Nat → Int) (s q : ByteArray) (k : Nat) : Prop where
  row : W.rowIs bp 32 (n + 1) (fun i => .pointer (some ⟨bp + 1 + i, 0, none⟩))
  done : ∀ i, i < k → i ≤ n → Held W (bp + 1 + i) bs bl (md i) (cnt n i)
  todo : ∀ i, k ≤ i → i ≤ n → OwnAt W (bp + 1 + i) (.slice none 0 0)
  sh : Tab W bs bp n (inModes (n + 1) (fun _ => 0)) q
  tb : Tab W bl bp n (inModes n md) s
  bel : Below bp w W

theorem St.lt {w W : World} {bp n bs bl : Nat} {md : Nat → Int} {s q : ByteArray} {k : Nat} (h : St w W bp n bs bl md s q k) : bp < W.heap.size :=
  World.block_lt_of_cell? _ _ (h.row.cell (i := 0) (by omega))

theorem St.own {w W : World} {bp n bs bl : Nat} {md : Nat → Int} {s q : ByteArray} {k : Nat} (h : St w W bp n bs bl md s q k) (i : Nat) (hi : i ≤ n) : OwnB W (bp + 1 + i) := by
  by_cases hlt : i < k
  · obtain ⟨v, h1, _⟩ := h.done i hlt hi
    exact h1.b
  · exact (h.todo i (by omega) hi).b

theorem St.later {w W W' : World} {bp n bs bl : Nat} {md : Nat → Int} {s q : ByteArray} {k : Nat} (h : St w W bp n bs bl md s q k) (hb : Below W.heap.size W W') : St w W' bp n bs bl md s q k :=
  ⟨h.row.of_block (hb.block _ h.lt), fun i h1 h2 => (h.done i h1 h2).keep hb, fun i h1 h2 => (h.todo i h1 h2).of_block (hb.block _ (h.todo i h1 h2).lt), h.sh.keep hb, h.tb.keep hb, h.bel.trans (hb.mono (Nat.le_of_lt h.lt))⟩

theorem St.step {w W W' : World} {bp n bs bl : Nat} {md : Nat → Int} {s q : ByteArray} {k : Nat} (h : St w W bp n bs bl md s q k) (hk : k ≤ n) (hm : Moved W W' (bp + 1 + k) none) (hh : Held W' (bp + 1 + k) bs bl (md k) (cnt n k)) : St w W' bp n bs bl md s q (k + 1) := by
  have ho := h.todo k (Nat.le_refl _) hk
  refine ⟨h.row.of_block (hm.block bp h.lt (by omega) (fun e => by cases e)), fun i h1 h2 => ?_, fun i h1 h2 => ?_, h.sh.moved ho hm, h.tb.moved ho hm, below_moved h.bel hm (by omega) (Nat.le_of_lt h.lt)⟩
  · by_cases e : i = k
    · subst e; exact hh
    · exact (h.done i (by omega) h2).moved (by omega) ho hm
  · exact (h.todo i (by omega) h2).moved (by omega) hm

/-- The name with an apostrophe is another name. -/
theorem name_ne (s : ByteArray) : s ++ ⟨#[39]⟩ ≠ s := by
  intro e
  have := congrArg ByteArray.size e
  simp at this
  have h := congrArg ByteArray.size this
  revert h
  decide

/-- Where owner i finds the lock. -/
def findAt (n i : Nat) : Int := if i < n then 1 else -1

theorem find_r {w W : World} {bp n bs bl : Nat} {md : Nat → Int} {s q : ByteArray} (h : St w W bp n bs bl md s q (n + 1)) (hq : q ≠ s) {i : Nat} (hi : i ≤ n) :
    Calls Try.prog 17 #[.pointer (some ⟨bp + 1 + i, 0, none⟩), .agg #[.string s, .string ByteArray.empty, .int .u8 0], .int .i64 0] W fun e w' => e = .returned (.tuple #[.int .i64 (findAt n i), .int .i64 (inModes n md i).1]) ∧ Below W.heap.size W w' := by
  obtain ⟨v, h1, h2⟩ := h.done i (by omega) hi
  have hc : cnt n i ≤ 2 := by unfold cnt; split <;> omega
  refine (find17 0 (bp + 1 + i) (cnt n i) 0 v _ _ (fun j => if j = 0 then q else s) s W h1 h2 (fun j hj => ?_) (by omega) (Nat.zero_le _)).mono ?_
  · by_cases e : j = 0
    · simp only [e, if_true]; exact h.sh.res
    · simp only [e, if_false]; exact h.tb.res
  · rintro e w' ⟨hf, hb⟩
    refine ⟨?_, hb⟩
    by_cases hlt : i < n
    · have hc2 : cnt n i = 2 := by unfold cnt; rw [if_pos hlt]
      unfold inModes findAt
      rw [if_pos hlt, if_pos hlt]
      rcases hf with ⟨j, hj, e1, rfl⟩ | ⟨hno, _⟩
      · have ej : j = 1 := by
          by_cases e0 : j = 0
          · simp only [e0, if_true] at e1; exact absurd e1 hq
          · omega
        subst ej
        rfl
      · exact absurd rfl (hno 1 (by omega))
    · have hc1 : cnt n i = 1 := by unfold cnt; rw [if_neg hlt]
      unfold inModes findAt
      rw [if_neg hlt, if_neg hlt]
      rcases hf with ⟨j, hj, e1, rfl⟩ | ⟨_, rfl⟩
      · have e0 : j = 0 := by omega
        simp only [e0, if_true] at e1
        exact absurd e1 hq
      · rfl

theorem find_s {w W : World} {bp n bs bl : Nat} {md : Nat → Int} {s q : ByteArray} (h : St w W bp n bs bl md s q (n + 1)) (hq : q ≠ s) {i : Nat} (hi : i ≤ n) :
    Calls Try.prog 17 #[.pointer (some ⟨bp + 1 + i, 0, none⟩), .agg #[.string q, .string ByteArray.empty, .int .u8 0], .int .i64 0] W fun e w' => e = .returned (.tuple #[.int .i64 0, .int .i64 0]) ∧ Below W.heap.size W w' := by
  obtain ⟨v, h1, h2⟩ := h.done i (by omega) hi
  have hc : 1 ≤ cnt n i ∧ cnt n i ≤ 2 := by unfold cnt; split <;> omega
  refine (find17 0 (bp + 1 + i) (cnt n i) 0 v _ _ (fun j => if j = 0 then q else s) q W h1 h2 (fun j hj => ?_) (by omega) (Nat.zero_le _)).mono ?_
  · by_cases e : j = 0
    · simp only [e, if_true]; exact h.sh.res
    · simp only [e, if_false]; exact h.tb.res
  · rintro e w' ⟨hf, hb⟩
    refine ⟨?_, hb⟩
    rcases hf with ⟨j, hj, e1, rfl⟩ | ⟨hno, _⟩
    · have ej : j = 0 := by
        by_cases e0 : j = 0
        · exact e0
        · simp only [e0, if_false] at e1; exact absurd e1.symm hq
      subst ej
      rfl
    · exact absurd rfl (hno 0 (by omega))

theorem held1 {W : World} {o bs bl g cap n k : Nat} {m : Int} (h : ¬k < n) (h1 : OwnAt W o (.slice (some ⟨g, 0, none⟩) 1 cap)) (h2 : W.ownsRow 0 55 2 (.slice (some ⟨g, 0, none⟩) 1 cap) 1 ([] ++ [.pointer (some ⟨bs, 0, none⟩), .int .i64 0])) : Held W o bs bl m (cnt n k) := by
  unfold cnt
  rw [if_neg h]
  exact ⟨_, h1, h2⟩

theorem held2 {W : World} {o bs bl g cap n k : Nat} {m : Int} (h : k < n) (h1 : OwnAt W o (.slice (some ⟨g, 0, none⟩) (1 + 1) cap)) (h2 : W.ownsRow 0 55 2 (.slice (some ⟨g, 0, none⟩) (1 + 1) cap) (1 + 1) (([] ++ [.pointer (some ⟨bs, 0, none⟩), .int .i64 0]) ++ [.pointer (some ⟨bl, 0, none⟩), .int .i64 m])) : Held W o bs bl m (cnt n k) := by
  unfold cnt
  rw [if_pos h]
  exact ⟨_, h1, h2⟩

theorem Moved.drew {W W' : World} {bo : Nat} {r : Option Nat} (h : Moved W W' bo r) : Moved W W'.drew bo r := ⟨h.os, h.tape, h.output, h.size, h.block⟩

/-- The shared lock's holders: every owner of the pool, in mode 0. -/
theorem shared_tabV {W : World} {bp n : Nat} {om : Option Nat} (h : MapIs W om (psTo (bp + 1) 0 (fun _ => 0) (n + 1))) : TabV W bp n (inModes (n + 1) (fun _ => 0)) (some (bp + 1)) 0 om (psTo (bp + 1) 0 (fun _ => 0) (n + 1)) :=
  ⟨h, fun c e => ⟨0, by omega, (Option.some.inj e).symm⟩, fun p hp => by obtain ⟨i, h1, h2⟩ := mem_psTo hp; exact ⟨i, by omega, h2⟩, fun i _ => says_tab (bp + 1) (n + 1) 0 (fun _ => 0) (by omega) i⟩

set_option maxHeartbeats 400000 in
theorem zz15 (a : Option Addr) (len cap : Nat) (fi : Int) (s : ByteArray) (w : World) (h0 : len ≤ maxLen) (hs : s.size ≤ maxLen) :
    Calls Try.prog 15 #[.slice a len cap, .int .i64 fi, .string s] w fun e w' => (e = .returned (.bool false) ∨ e = .returned (.bool true)) ∧ w' = w := by
  unfold maxLen at *
  by_cases h1 : 1048576 < len
  · have h1z : (1048576 : Int) < (len : Int) := by omega
    go_enter Try.func15, Try.ntmps15
    go_wp2
    go_ret
    simp
  have h1z : (len : Int) ≤ 1048576 := by omega
  by_cases h2 : 1048576 < s.size
  · have h2z : (1048576 : Int) < (s.size : Int) := by omega
    go_enter Try.func15, Try.ntmps15
    go_wp2
    go_ret
    simp
  have h2z : (s.size : Int) ≤ 1048576 := by omega
  go_enter Try.func15, Try.ntmps15
  go_wp2
  all_goals go_ret
  all_goals simp
end Go.Proofs.Qxb6603549a
