/-
  radix (45): the walk.
-/
import Derived.Test.Qxb6602564aRw1
import Derived.Laws.CopyRow
import Derived.BigQuiet
import Derived.Laws.Bits128
namespace Go.Proofs.Qxb6602564a
open Go.RowKit

theorem krow_one {n : Nat} {F : Nat → Pl.Key} {c : Array Value} (hs : c.size = n * 3) (hc : ∀ i, i < n → c[i * 3]? = some (.int .i64 (F i).t) ∧ c[i * 3 + 1]? = some (.int .i64 (F i).h) ∧ c[i * 3 + 2]? = some (.int .i64 (F i).n)) :
    ∀ v ∈ c.toList, v.oneCell' = true := by
  intro v hv
  obtain ⟨j, hj, rfl⟩ := List.getElem_of_mem hv
  have hj' : j < c.size := by simpa using hj
  have e : j = j / 3 * 3 + j % 3 := by omega
  have hd : j / 3 < n := by omega
  have h3 : j % 3 < 3 := by omega
  obtain ⟨h0, h1, h2⟩ := hc (j / 3) hd
  have hj2 : c[j]? = some c[j] := by simp [hj']
  have : ∃ z : Int, c[j]? = some (.int .i64 z) := by
    rcases (show j % 3 = 0 ∨ j % 3 = 1 ∨ j % 3 = 2 by omega) with g | g | g
    · exact ⟨_, by rw [e, g]; exact h0⟩
    · exact ⟨_, by rw [e, g]; exact h1⟩
    · exact ⟨_, by rw [e, g]; exact h2⟩
  obtain ⟨z, hz⟩ := this
  rw [hj2] at hz
  simp only [Array.getElem_toList]
  rw [Option.some.inj hz]
  rfl

/-- 'copy(keys, from)', rows of n keys each. -/
theorem run_copy_keys {w : World} {bk bf n : Nat} {F G : Nat → Pl.Key} (hf : KRow w bf n F) (hk : KRow w bk n G) :
    ∃ c : Array Value, (∀ ty, (Builtin.copy_ #[46, 46] ty #[.slice (some ⟨bk, 0, none⟩) n n, .slice (some ⟨bf, 0, none⟩) n n]).run Try.prog w = .ok (goInt n) (w.setRow bk c)) ∧ KRow (w.setRow bk c) bk n F := by
  obtain ⟨c, hb, hs, hc⟩ := hf
  obtain ⟨cur, hb2, hs2, _⟩ := hk
  refine ⟨c, fun ty => ?_, c, setRow_heap w bk cur c 62 _ hb2, hs, hc⟩
  have hl := run_firstCells_some (P := Try.prog) w 3 n ⟨bf, 0, none⟩ n n c.toList (by simpa using hs) (fun j v hv => by
    rw [Addr.add_lit, Nat.zero_add]
    simp [World.cell?, hb]
    simpa using hv)
  have hst := run_storeCells_at Try.prog bk 0 62 c.toList 0 cur w hb2 (by simp; omega) (krow_one hs hc)
  obtain ⟨i, hi, _, hsz, _⟩ := info_parts info62
  have e : (cur.toList.take 0 ++ c.toList ++ cur.toList.drop (0 + 0 + c.toList.length)).toArray = c := by
    rw [List.drop_eq_nil_of_le (by simp; omega)]
    simp
  simp only [Nat.add_zero] at e hst
  rw [e] at hst
  have hmin : Nat.min n n = n := Nat.min_self n
  simp only [Array.toArray_toList] at hl
  simp [Builtin.copy_, run_underlying Try.underlying46, Builtin.lenOf, sizeOf, typeInfo, hi, hsz, hmin, hl, hst]

theorem i64_and255 (n : Int) : bits .and .i64 n 255 = n % 256 := by
  have h255 : (BitVec.ofInt 64 255).toNat = 2 ^ 8 - 1 := by decide
  have key : (BitVec.ofInt 64 n &&& BitVec.ofInt 64 255).toNat = (n % ((2 ^ 64 : Nat) : Int)).toNat % 2 ^ 8 := by
    rw [BitVec.toNat_and, BitVec.toNat_ofInt, h255, Nat.and_two_pow_sub_one_eq_mod]
  show IntKind.i64.wrap ((BitVec.ofInt 64 n &&& BitVec.ofInt 64 255).toNat : Nat) = n % 256
  rw [key, IntKind.wrap_i64]
  omega

/-- The byte that the sort reads. -/
theorem byte_read (k : Nat) (lo : Int) (s : Nat) (x : Pl.Key) (h : lo ≤ Pl.fld k x) : bits .and .i64 ((Pl.fld k x - lo) / 2 ^ s) 255 = ((Pl.byteOf k lo s x : Nat) : Int) := by
  rw [i64_and255]
  unfold Pl.byteOf Pl.above
  obtain ⟨m, hm⟩ : ∃ m : Nat, Pl.fld k x - lo = (m : Int) := ⟨(Pl.fld k x - lo).toNat, by omega⟩
  rw [hm, Int.toNat_natCast]
  rw [Int.natCast_emod, Int.natCast_ediv, Int.natCast_pow]
  rfl

/-! ### A region that draws its order, whose operations read and whose callees make memory of their own: ONE WALK, over a family of worlds that the prover names -/

/-- A world of the family. -/
structure Among (Good : World → Prop) where
  val : World
  ok : Good val

theorem wp_region_quiet_in {P : Program} {id : Nat} {Q : Exit → Act → World → Prop} {a : Act} {w : World} {l : List Oper} (Good : World → Prop) (hm : P.follows .mixedOrders = true) (hB : Region.lexB .any l.toArray = true) (hC : Good w.drew)
    (h : Nonempty (Among Good) → wpQuiet P l.toArray (fun w' => ∃ x : Among Good, w' = x.val) (fun a' => ∀ w', (∃ x : Among Good, w' = x.val) → Q .normal a' w') l a) : (Code.region id l.toArray true).wp P Q a w :=
  wp_region_quiet (C := fun w' => ∃ x : Among Good, w' = x.val) hm hB ⟨⟨_, hC⟩, rfl⟩ (by simpa using h ⟨⟨_, hC⟩⟩)

theorem Calls.in_of {P : Program} {f : FuncId} {args : Array Value} {Good : World → Prop} {W : World} {v : Value} {o : Obj} (hW : Good (W.alloc o)) (h : Calls P f args W fun e w' => e = .returned v ∧ w' = W.alloc o) :
    Calls P f args W fun e w' => e = .returned v ∧ ∃ x : Among Good, w' = x.val :=
  h.mono fun _ _ ⟨he, hw⟩ => ⟨he, ⟨_, hW⟩, hw⟩

end Go.Proofs.Qxb6602564a
