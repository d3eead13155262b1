/-
  A map keyed by owners (pointers): its run laws; heldBy (20, 14); newPool (11); holderTable (12).
-/
import Derived.Test.Qxb6603549aUniq
import Derived.LaidEqlPtr
import Derived.MapKept
namespace Go.Proofs.Qxb6603549a
open Go.RowKit

theorem info58 : (Try.prog.info? 58).map (fun i => (i.zero, i.size, i.bytes)) = some (some (.agg z58), 15, 160) := by kernel_rfl
theorem info32 : (Try.prog.info? 32).map (fun i => (i.zero, i.size, i.bytes)) = some (some (.pointer none), 1, 8) := by kernel_rfl

/-- A pointer to owner b. -/
def optr (b : Nat) : Value := .pointer (some ⟨b, 0, none⟩)

/-- Block b is an owner. -/
def OwnB (W : World) (b : Nat) : Prop := ∃ c : Array Value, W.heap[b]? = some (.cells c 58 (0, 0))

theorem OwnAt.b {W : World} {b : Nat} {v : Value} (h : OwnAt W b v) : OwnB W b := by
  obtain ⟨c, hb, _⟩ := h
  exact ⟨c, hb⟩

theorem run_equal_own {W : World} {a b : Nat} (ha : OwnB W a) (hb : OwnB W b) : (Op.equal 32 (optr a) (optr b)).run Try.prog W = .ok (decide (a = b)) W := by
  obtain ⟨i, hi, _, hs, _⟩ := info_parts info58
  obtain ⟨ca, ha⟩ := ha
  obtain ⟨cb, hb⟩ := hb
  have h : ∀ d : Nat, (Op.equalIn (d + 1) 32 (optr a) (optr b)).run Try.prog W = .ok (decide (a = b)) W := fun d => by
    by_cases e : a = b
    · subst e
      simp [optr, Op.equalIn, run_underlying Try.underlying32, sizeOf, typeInfo, hi, run_sameAddr_same]
    · have hne : (⟨a, 0, none⟩ : Addr) ≠ ⟨b, 0, none⟩ := fun h => e (by cases h; rfl)
      simp [optr, Op.equalIn, run_underlying Try.underlying32, sizeOf, typeInfo, hi, hs, run_sameAddr_other W hne ha hb, e]
  exact h 9999

theorem run_eql_own {W : World} {a b : Nat} (ha : OwnB W a) (hb : OwnB W b) : (binOp .eql 32 (.pointer (some ⟨a, 0, none⟩)) (.pointer (some ⟨b, 0, none⟩))).run Try.prog W = .ok (.bool (decide (a = b))) W := by
  have h := run_equal_own ha hb
  unfold optr at h
  simp only [binOp]
  simp [h]

theorem run_eql_none (W : World) (b : Nat) : (binOp .eql 32 (.pointer none) (.pointer (some ⟨b, 0, none⟩))).run Try.prog W = .ok (.bool false) W := by
  have h : ∀ d : Nat, (Op.equalIn (d + 1) 32 (.pointer none) (.pointer (some ⟨b, 0, none⟩))).run Try.prog W = .ok false W := fun d => by
    simp [Op.equalIn, run_underlying Try.underlying32]
  simp only [binOp]
  simp [Op.equal, Op.maxDepth, h 9999]

/-- Entries that read as the pairs (owner, mode). -/
def Reads (es : List MapEntry) (ps : List (Nat × Int)) : Prop := es.map (fun e => (e.key, e.val)) = ps.map (fun p => (optr p.1, Value.int .i64 p.2))

/-- The first mode at owner b. -/
def lkp (b : Nat) : List (Nat × Int) → Option Int
  | [] => none
  | p :: r => if b = p.1 then some p.2 else lkp b r

theorem run_findAsking {W : World} {b : Nat} (hb : OwnB W b) : ∀ (es : List MapEntry) (ps : List (Nat × Int)) (i : Nat), Reads es ps → (∀ p ∈ ps, OwnB W p.1) →
    ∃ r, (Instr.findAsking 32 (optr b) es i).run Try.prog W = .ok r W ∧ r.map (·.2) = (lkp b ps).map (Value.int .i64)
  | [], [], i, _, _ => ⟨none, by simp [Instr.findAsking], rfl⟩
  | [], p :: ps, _, h, _ => by simp [Reads] at h
  | e :: es, [], _, h, _ => by simp [Reads] at h
  | e :: es, p :: ps, i, h, ho => by
    simp only [Reads, List.map_cons, List.cons.injEq, Prod.mk.injEq] at h
    obtain ⟨⟨hk, hv⟩, ht⟩ := h
    obtain ⟨r, h1, h2⟩ := run_findAsking hb es ps (i + 1) ht (fun q hq => ho q (by simp [hq]))
    have he := run_equal_own hb (ho p (by simp))
    rw [← hk] at he
    by_cases e1 : b = p.1
    · refine ⟨some (i, e.val), ?_, by simp [lkp, e1, hv]⟩
      have he' : (Op.equal 32 (optr b) e.key).run Try.prog W = .ok true W := by rw [he]; simp [e1]
      simp [Instr.findAsking, he']
    · refine ⟨r, ?_, by rw [h2]; simp [lkp, e1]⟩
      have he' : (Op.equal 32 (optr b) e.key).run Try.prog W = .ok false W := by rw [he]; simp [e1]
      simp [Instr.findAsking, he', h1]

theorem run_findKey_own {W : World} {b : Nat} (hb : OwnB W b) (es : List MapEntry) (ps : List (Nat × Int)) (h : Reads es ps) (ho : ∀ p ∈ ps, OwnB W p.1) :
    ∃ r, (Instr.findKey 32 (optr b) es).run Try.prog W = .ok r W ∧ r.map (·.2) = (lkp b ps).map (Value.int .i64) := by
  match es, ps, h with
  | [], [], _ => exact ⟨none, by simp [Instr.findKey, run_underlying Try.underlying32, Instr.findNow], rfl⟩
  | [], p :: ps, h => simp [Reads] at h
  | e :: es, ps, h =>
    obtain ⟨r, h1, h2⟩ := run_findAsking hb (e :: es) ps 0 h ho
    refine ⟨r, ?_, h2⟩
    have hn : Instr.findNow (.pointer 58) (optr b) (e :: es) 0 = none := by
      unfold Instr.findNow
      have : Instr.sameNow (.pointer 58) (optr b) e.key = none := by unfold optr Instr.sameNow; rfl
      rw [this]
    simp [Instr.findKey, run_underlying Try.underlying32, hn, h1]

theorem run_checkKey_own (W : World) (e : Bool) (b : Nat) : (Instr.checkKey e 10000 32 (optr b)).run Try.prog W = .ok () W := by
  have h : ∀ d : Nat, (Instr.checkKey e (d + 1) 32 (optr b)).run Try.prog W = .ok () W := fun d => by
    simp [Instr.checkKey, run_underlying Try.underlying32, optr]
  exact h 9999

/-- The map value om holds just the pairs ps. -/
def MapIs (W : World) (om : Option Nat) (ps : List (Nat × Int)) : Prop :=
  (om = none ∧ ps = []) ∨ ∃ bm es clock, om = some bm ∧ W.heap[bm]? = some (.map es clock) ∧ Reads es.toList ps

theorem run_lookup_own {W : World} {om : Option Nat} {ps : List (Nat × Int)} (hm : MapIs W om ps) {b : Nat} (hb : OwnB W b) (ho : ∀ p ∈ ps, OwnB W p.1) :
    (Instr.lookup 34 (.map om) (.pointer (some ⟨b, 0, none⟩)) true).run Try.prog W = .ok (.tuple #[.int .i64 ((lkp b ps).getD 0), .bool (lkp b ps).isSome]) W := by
  have hc := run_checkKey_own W
  unfold optr at hc
  rcases hm with ⟨rfl, rfl⟩ | ⟨bm, es, clock, rfl, hh, hr⟩
  · obtain ⟨r, h1, h2⟩ := run_findKey_own hb [] [] rfl ho
    unfold optr at h1
    have e : r = none := by simpa [lkp] using h2
    subst e
    simp [Instr.lookup, run_underlying Try.underlying34, hc, h1, lkp]
  · obtain ⟨r, h1, h2⟩ := run_findKey_own hb es.toList ps hr ho
    unfold optr at h1
    cases hl : lkp b ps with
    | none =>
      have e : r = none := by simpa [hl] using h2
      subst e
      simp [Instr.lookup, run_underlying Try.underlying34, MapKept.run_getObj_map hh, hc, h1]
    | some m =>
      rw [hl] at h2
      match r, h2 with
      | some (i, v), h2 =>
        have ev : v = .int .i64 m := by simpa using h2
        subst ev
        simp [Instr.lookup, run_underlying Try.underlying34, MapKept.run_getObj_map hh, hc, h1]

/-- W with block b as o. -/
def setB (W : World) (b : Nat) (o : Obj) : World := { W with heap := W.heap.setIfInBounds b o }

theorem run_mapUpdate_own {W : World} {bm : Nat} {es : Array MapEntry} {clock : Nat} {ps : List (Nat × Int)} (hh : W.heap[bm]? = some (.map es clock)) (hr : Reads es.toList ps) {b : Nat} (m : Int) (hb : OwnB W b) (ho : ∀ p ∈ ps, OwnB W p.1) (hn : lkp b ps = none) :
    (Instr.mapUpdate 34 (.map (some bm)) (.pointer (some ⟨b, 0, none⟩)) (.int .i64 m)).run Try.prog W = .ok () (setB W bm (.map (es.push { key := .pointer (some ⟨b, 0, none⟩), val := .int .i64 m, born := clock }) (clock + 1))) := by
  obtain ⟨r, h1, h2⟩ := run_findKey_own hb es.toList ps hr ho
  have hc := run_checkKey_own W
  unfold optr at h1 hc
  have e : r = none := by simpa [hn] using h2
  subst e
  simp [Instr.mapUpdate, run_underlying Try.underlying34, MapKept.run_getObj_map hh, hc, h1, MapKept.run_setObj_map _ hh, setB]

end Go.Proofs.Qxb6603549a
