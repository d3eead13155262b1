import Derived.Test.Qxb6602564aRw3
import Derived.Deep.RegionWith
namespace Go.Proofs.Qxb6602564a
open Go.RowKit

/-- Two rows of keys side by side, all else below B0 as it was. -/
structure Ro (B0 : Nat) (w wr : World) (bf bt n : Nat) (F T : Nat → Pl.Key) : Prop where
  src : KRow wr bf n F
  dst : KRow wr bt n T
  ne : bf ≠ bt
  b1 : B0 ≤ bf
  b2 : B0 ≤ bt
  bel : Below B0 w wr
  size : B0 ≤ wr.heap.size

namespace Ro
variable {B0 : Nat} {w wr : World} {bf bt n : Nat} {F T : Nat → Pl.Key}
theorem alloc (h : Ro B0 w wr bf bt n F T) (o : Obj) : Ro B0 w (wr.alloc o) bf bt n F T :=
  ⟨h.src.alloc o, h.dst.alloc o, h.ne, h.b1, h.b2, h.bel.alloc h.size o, by have := h.size; simp; omega⟩
theorem drewN (h : Ro B0 w wr bf bt n F T) (q : Nat) : Ro B0 w (wr.drewN q) bf bt n F T :=
  ⟨h.src, h.dst, h.ne, h.b1, h.b2, h.bel.trans ⟨rfl, rfl, rfl, Nat.le_refl _, fun _ _ => rfl⟩, h.size⟩
theorem drew (h : Ro B0 w wr bf bt n F T) : Ro B0 w wr.drew bf bt n F T := h.drewN 1
theorem swap (h : Ro B0 w wr bf bt n F T) : Ro B0 w wr bt bf n T F := ⟨h.dst, h.src, h.ne.symm, h.b2, h.b1, h.bel, h.size⟩
theorem other (h : Ro B0 w wr bf bt n F T) {a : Addr} (h1 : bf ≠ a.block) (h2 : bt ≠ a.block) (h3 : B0 ≤ a.block) (v : Value) : Ro B0 w (wr.setCell a v) bf bt n F T :=
  ⟨h.src.other h1 v, h.dst.other h2 v, h.ne, h.b1, h.b2, h.bel.setCell h3 v, by simpa using h.size⟩
end Ro

def mnI (a b : Int) : Int := if b < a then b else a
def mxI (a b : Int) : Int := if a < b then b else a
theorem run_mn (ts : Array TypeId) (t : TypeId) (a b : Int) (w : World) : (Builtin.min_ ts t #[.int .i64 a, .int .i64 b]).run Try.prog w = .ok (.int .i64 (mnI a b)) w := by
  rw [run_min_int2]; rfl
theorem run_mx (ts : Array TypeId) (t : TypeId) (a b : Int) (w : World) : (Builtin.max_ ts t #[.int .i64 a, .int .i64 b]).run Try.prog w = .ok (.int .i64 (mxI a b)) w := by
  rw [run_max_int2]; rfl

theorem ro_among {B0 : Nat} {w : World} {bf bt n : Nat} {F T : Nat → Pl.Key} (x : Among (fun W => Ro B0 w W bf bt n F T)) (o : Obj) : Ro B0 w (x.val.alloc o) bf bt n F T := x.ok.alloc o

/-- A key in a block of its own. -/
structure Box (W : World) (b : Nat) (x : Pl.Key) : Prop where
  c0 : W.cell? ⟨b, 0, none⟩ = some (.int .i64 x.t)
  c1 : W.cell? ⟨b, 1, none⟩ = some (.int .i64 x.h)
  c2 : W.cell? ⟨b, 2, none⟩ = some (.int .i64 x.n)
theorem Box.alloc {W : World} {b : Nat} {x : Pl.Key} (h : Box W b x) (o : Obj) : Box (W.alloc o) b x := by
  have hb := World.block_lt_of_cell? _ _ h.c0
  exact ⟨(World.cell?_alloc_lt _ _ ⟨b, 0, none⟩ hb).trans h.c0, (World.cell?_alloc_lt _ _ ⟨b, 1, none⟩ hb).trans h.c1, (World.cell?_alloc_lt _ _ ⟨b, 2, none⟩ hb).trans h.c2⟩
theorem Box.drew {W : World} {b : Nat} {x : Pl.Key} (h : Box W b x) : Box W.drew b x := ⟨h.c0, h.c1, h.c2⟩
theorem box_new (W : World) (x : Pl.Key) : Box (W.alloc (.cells #[.int .i64 x.t, .int .i64 x.h, .int .i64 x.n] 62)) W.heap.size x := ⟨by simp, by simp, by simp⟩

/-- Two rows and a key in a block of its own. -/
structure RoBox (B0 : Nat) (w W : World) (bf bt n : Nat) (F T : Nat → Pl.Key) (b : Nat) (x : Pl.Key) : Prop where
  ro : Ro B0 w W bf bt n F T
  box : Box W b x
theorem rb_among {B0 : Nat} {w : World} {bf bt n : Nat} {F T : Nat → Pl.Key} {b : Nat} {x : Pl.Key} (y : Among (fun W => RoBox B0 w W bf bt n F T b x)) (o : Obj) : RoBox B0 w (y.val.alloc o) bf bt n F T b x := ⟨y.ok.ro.alloc o, y.ok.box.alloc o⟩
theorem mn_pick (f : Nat → Int) {n p i : Nat} (hp : p < n) (hi : i < n) : ∃ p', p' < n ∧ mnI (f p) (f i) = f p' ∧ f p' ≤ f p ∧ f p' ≤ f i := by
  unfold mnI
  split
  · exact ⟨i, hi, rfl, by omega, Int.le_refl _⟩
  · exact ⟨p, hp, rfl, Int.le_refl _, by omega⟩
theorem mx_pick (f : Nat → Int) {n p i : Nat} (hp : p < n) (hi : i < n) : ∃ p', p' < n ∧ mxI (f p) (f i) = f p' ∧ f p ≤ f p' ∧ f i ≤ f p' := by
  unfold mxI
  split
  · exact ⟨i, hi, rfl, by omega, Int.le_refl _⟩
  · exact ⟨p, hp, rfl, Int.le_refl _, by omega⟩

/-- The cells of [257]int's zero value. -/
def z65 : Array Value := Array.replicate 257 (.int .i64 0)
theorem run_zero65 (W : World) : Sem.run Try.prog (zeroValue 65) W = .ok (.agg z65) W := by kernel_rfl

/-- The counts: block b is a row of 257 ints. -/
abbrev ARow (w : World) (b : Nat) (f : Nat → Int) : Prop := w.rowIs b 65 257 (fun i => .int .i64 (f i))
theorem arow_new (W : World) : ARow (W.alloc (.cells z65 65)) W.heap.size (fun _ => 0) := by
  have := World.rowIs_alloc W z65 65 (fun _ => .int .i64 0) (fun i hi => by simp [z65] at hi; simp [z65, hi])
  simpa [z65] using this
theorem ARow.store {w : World} {b : Nat} {f : Nat → Int} (h : ARow w b f) (k : Nat) (s : Int) : ARow (w.setCell ⟨b, k, none⟩ (.int .i64 s)) b (Pl.upd f k s) :=
  (h.set k (.int .i64 s)).congr fun i _ => by unfold Pl.upd; split <;> rfl
theorem ARow.re {w : World} {b : Nat} {f g : Nat → Int} (h : ARow w b f) (e : ∀ i, i < 257 → f i = g i) : ARow w b g := World.rowIs.congr h fun i hi => by rw [e i hi]

/-- Two rows of keys and the row of counts. -/
structure RA (B0 : Nat) (w W : World) (bf bt n : Nat) (F T : Nat → Pl.Key) (A : Nat) (c : Nat → Int) : Prop where
  ro : Ro B0 w W bf bt n F T
  cnt : ARow W A c
  a1 : bf ≠ A
  a2 : bt ≠ A
  a3 : B0 ≤ A
theorem RA.alloc {B0 : Nat} {w W : World} {bf bt n : Nat} {F T : Nat → Pl.Key} {A : Nat} {c : Nat → Int} (h : RA B0 w W bf bt n F T A c) (o : Obj) : RA B0 w (W.alloc o) bf bt n F T A c := ⟨h.ro.alloc o, h.cnt.alloc o, h.a1, h.a2, h.a3⟩
theorem RA.count {B0 : Nat} {w W : World} {bf bt n : Nat} {F T : Nat → Pl.Key} {A : Nat} {c : Nat → Int} (h : RA B0 w W bf bt n F T A c) (v : Nat) (x : Int) : RA B0 w (W.setCell ⟨A, v, none⟩ (.int .i64 x)) bf bt n F T A (Pl.upd c v x) :=
  ⟨h.ro.other h.a1 h.a2 h.a3 _, h.cnt.store v x, h.a1, h.a2, h.a3⟩
theorem RA.drew {B0 : Nat} {w W : World} {bf bt n : Nat} {F T : Nat → Pl.Key} {A : Nat} {c : Nat → Int} (h : RA B0 w W bf bt n F T A c) : RA B0 w W.drew bf bt n F T A c := ⟨h.ro.drew, h.cnt.drew, h.a1, h.a2, h.a3⟩

theorem RA.put {B0 : Nat} {w W : World} {bf bt n : Nat} {F T : Nat → Pl.Key} {A : Nat} {c : Nat → Int} (h : RA B0 w W bf bt n F T A c) (k : Nat) (x : Pl.Key) :
    RA B0 w (((W.setCell ⟨bt, k * 3, none⟩ (.int .i64 x.t)).setCell ⟨bt, k * 3 + 1, none⟩ (.int .i64 x.h)).setCell ⟨bt, k * 3 + 2, none⟩ (.int .i64 x.n)) bf bt n F (Pl.upd T k x) A c := by
  have hr := h.ro
  refine ⟨⟨((hr.src.other hr.ne _).other hr.ne _).other hr.ne _, hr.dst.put x, hr.ne, hr.b1, hr.b2, below_put hr.bel hr.b2 k _ _ _, by simpa using hr.size⟩, ?_, h.a1, h.a2, h.a3⟩
  exact ((h.cnt.setOther (fun e => h.a2 e.symm) _).setOther (fun e => h.a2 e.symm) _).setOther (fun e => h.a2 e.symm) _

theorem pw_any {α : Type} {R : α → α → Prop} (h : ∀ x y, R x y) : ∀ {l : List α}, l.Pairwise R
  | [] => List.Pairwise.nil
  | _ :: _ => List.pairwise_cons.2 ⟨fun y _ => h _ y, pw_any h⟩

set_option maxHeartbeats 400000 in
theorem field55 (k : Nat) (hk : k < 3) (x : Pl.Key) (w : World) (h1 : -9223372036854775808 < x.h) (h2 : x.h ≤ 9223372036854775807) :
    Calls Try.prog 55 #[.agg #[.int .i64 x.t, .int .i64 x.h, .int .i64 x.n], .int .i64 (k : Int)] w fun e w' => e = .returned (.int .i64 (Pl.fld k x)) ∧ w' = w.alloc (.cells #[.int .i64 x.t, .int .i64 x.h, .int .i64 x.n] 62) := by
  match k, hk with
  | 0, _ => exact field55_0 _ _ _ _
  | 1, _ => exact field55_1 _ _ _ _ h1 h2
  | 2, _ => exact field55_2 _ _ _ _

set_option maxRecDepth 100000 in
set_option maxHeartbeats 1000000 in
theorem radix45 (B0 bso bk n : Nat) (F0 : Nat → Pl.Key) (w : World) (hpos : 0 < n) (hn : n ≤ 43690) (hB1 : B0 ≤ bso) (hB2 : B0 ≤ bk) (hne : bso ≠ bk) (hBw : B0 ≤ w.heap.size)
    (hso : w.cell? ⟨bso, 0, none⟩ = some (.slice none 0 0)) (hsf : w.frozen? ⟨bso, 0, none⟩ = false) (hrow : KRow w bk n F0) (hH : ∀ x ∈ Pl.seg F0 0 n, -9223372036854775808 < x.h ∧ x.h ≤ 9223372036854775807)
    (hSp : ∀ k, k < 3 → ∀ x ∈ Pl.seg F0 0 n, ∀ y ∈ Pl.seg F0 0 n, Pl.fld k x - Pl.fld k y ≤ 9223372036854775807) :
    Calls Try.prog 45 #[.pointer (some ⟨bso, 0, none⟩), .slice (some ⟨bk, 0, none⟩) n n] w fun e w' => e = .returned (.tuple #[]) ∧ ∃ G, KRow w' bk n G ∧ (Pl.seg G 0 n).Perm (Pl.seg F0 0 n) ∧ (Pl.seg G 0 n).Pairwise (Pl.lexLe 3) ∧ Below B0 w w' := by
  have hmk := run_make_keys n (by omega)
  have hbk := hrow.lt
  have hlo : bso < w.heap.size := World.block_lt_of_cell? _ _ hso
  have hnz : (0 : Int) < (n : Int) := by omega
  have hso2 : ∀ o, ((w.setCell ⟨bso, 0, none⟩ (.slice (some ⟨w.heap.size, 0, none⟩) n n)).alloc o).cell? ⟨bso, 0, none⟩ = some (.slice (some ⟨w.heap.size, 0, none⟩) n n) := fun o => by
    rw [World.cell?_alloc_lt _ _ _ (by simpa using hlo)]
    exact World.cell?_setCell_same _ _ _ hso
  have hR : Ro B0 w ((w.setCell ⟨bso, 0, none⟩ (.slice (some ⟨w.heap.size, 0, none⟩) n n)).alloc (.cells (madeCells #[.int .i64 0, .int .i64 0, .int .i64 0] (n * 3)) 62)) bk w.heap.size n F0 (fun _ => ⟨0, 0, 0⟩) := by
    refine ⟨(hrow.other hne.symm _).alloc _, ?_, by omega, hB2, hBw, ((Below.refl _ _).setCell hB1 _).alloc (by simpa using hBw) _, by simp; omega⟩
    have := krow_made n (w.setCell ⟨bso, 0, none⟩ (.slice (some ⟨w.heap.size, 0, none⟩) n n))
    simpa using this
  have HR := hR
  go_enter Try.func45, Try.ntmps45
  go_wp2_with fail
  go_quiet (fail)
  clear hso2 hmk hso hsf
  generalize hW1 : ((w.setCell ⟨bso, 0, none⟩ (.slice (some ⟨w.heap.size, 0, none⟩) n n)).alloc (.cells (madeCells #[.int .i64 0, .int .i64 0, .int .i64 0] (n * 3)) 62)) = W1 at *
  clear hW1
  go_wp2_with fail
  go_loopg [4, 5, 41] 3 (fun g s4 s5 s41 wx => ∃ (k bf bt : Nat) (F T : Nat → Pl.Key), k ≤ 3 ∧ g = 3 - k ∧ s41 = .int .i64 k ∧ s4 = .slice (some ⟨bf, 0, none⟩) n n ∧ s5 = .slice (some ⟨bt, 0, none⟩) n n ∧ (bf = bk ∨ bt = bk) ∧
    Ro B0 w wx bf bt n F T ∧ Hid ((Pl.seg F 0 n).Perm (Pl.seg F0 0 n)) ∧ Hid ((Pl.seg F 0 n).Pairwise (Pl.lexLe k)))
  case atStart => exact ⟨0, bk, w.heap.size, F0, _, by omega, rfl, rfl, rfl, rfl, .inl rfl, HR.drewN _, List.Perm.refl _, pw_any fun _ _ => trivial⟩
  case round =>
    clear hR HR
    obtain ⟨k, bf, bt, F, T, hk, rfl, rfl, rfl, rfl, hor, R, hpm, hsd⟩ := hrel
    by_cases hk3 : k < 3
    · have hkz : (k : Int) < 3 := by omega
      have hHF : Hid (∀ i, i < n → -9223372036854775808 < (F i).h ∧ (F i).h ≤ 9223372036854775807) := fun i hi => hH _ (hpm.out.mem_iff.1 (Pl.mem_seg.2 ⟨i, Nat.zero_le _, hi, rfl⟩))
      have c0 : wr.cell? ⟨bf, 0, none⟩ = some (.int .i64 (F 0).t) := R.src.c0 hpos
      have c1 : wr.cell? ⟨bf, 1, none⟩ = some (.int .i64 (F 0).h) := R.src.c1 hpos
      have c2 : wr.cell? ⟨bf, 2, none⟩ = some (.int .i64 (F 0).n) := R.src.c2 hpos
      have hbf := R.src.lt
      have hf0 := fun W => field55 k hk3 (F 0) W (hHF.out 0 hpos).1 (hHF.out 0 hpos).2
      have FC : Hid (∀ W, Calls Try.prog 55 #[.agg #[.int .i64 (F 0).t, .int .i64 (F 0).h, .int .i64 (F 0).n], .int .i64 (k : Int)] W fun e w' => e = .returned (.int .i64 (Pl.fld k (F 0))) ∧ w' = W.alloc (.cells #[.int .i64 (F 0).t, .int .i64 (F 0).h, .int .i64 (F 0).n] 62)) := hf0
      clear hf0
      go_wp2_with fail
      go_cut [7, 8] (fun s7 s8 wx => s7 = .int .i64 (Pl.fld k (F 0)) ∧ s8 = .int .i64 (Pl.fld k (F 0)) ∧ Ro B0 w wx bf bt n F T)
      case first =>
        refine wp_region_quiet_in (fun W => Ro B0 w W bf bt n F T) (by kernel_rfl) (by kernel_rfl) R.drew ?_
        intro hne0
        have k0 : ∀ W : Among (fun W => Ro B0 w W bf bt n F T), W.val.cell? ⟨bf, 0, none⟩ = some (.int .i64 (F 0).t) := fun W => W.ok.src.c0 hpos
        have k1 : ∀ W : Among (fun W => Ro B0 w W bf bt n F T), W.val.cell? ⟨bf, 1, none⟩ = some (.int .i64 (F 0).h) := fun W => W.ok.src.c1 hpos
        have k2 : ∀ W : Among (fun W => Ro B0 w W bf bt n F T), W.val.cell? ⟨bf, 2, none⟩ = some (.int .i64 (F 0).n) := fun W => W.ok.src.c2 hpos
        repeat (go_big_quiet_step ((go_at_call 55; exact Calls.in_of (Good := fun W => Ro B0 w W bf bt n F T) (ro_among _ _) (FC.out _))))
        refine wpQuiet_nil ?_
        rintro _ ⟨⟨W, hW⟩, rfl⟩
        clear k0 k1 k2 hne0
        go_wp2_with fail
        go_meet
        exact ⟨rfl, rfl, hW⟩
      case rest =>
        obtain ⟨rfl, rfl, R1⟩ := hcut
        clear c0 c1 c2 FC R hbf
        go_wp2_with fail
        go_loopg [7, 8, 56] n (fun g s7 s8 s56 wx => ∃ (i p q : Nat), i ≤ n ∧ g = n - i ∧ p < n ∧ q < n ∧ s56 = .int .i64 i ∧ s7 = .int .i64 (Pl.fld k (F p)) ∧ s8 = .int .i64 (Pl.fld k (F q)) ∧
          Ro B0 w wx bf bt n F T ∧ Hid (∀ x, x < i → Pl.fld k (F p) ≤ Pl.fld k (F x) ∧ Pl.fld k (F x) ≤ Pl.fld k (F q)))
        case atStart => exact ⟨0, 0, 0, by omega, rfl, hpos, hpos, rfl, rfl, rfl, R1, fun x hx => by omega⟩
        case round =>
          clear R1
          obtain ⟨i, p, q, hi, rfl, hp, hq, rfl, rfl, rfl, R, hmm⟩ := hrel
          by_cases hin : i < n
          · have hiz : (i : Int) < (n : Int) := by omega
            have c0 := R.src.c0 hin
            have c1 := R.src.c1 hin
            have c2 := R.src.c2 hin
            have hbf := R.src.lt
            have hf0 := fun W => field55 k hk3 (F i) W (hHF.out i hin).1 (hHF.out i hin).2
            have FC : Hid (∀ W, Calls Try.prog 55 #[.agg #[.int .i64 (F i).t, .int .i64 (F i).h, .int .i64 (F i).n], .int .i64 (k : Int)] W fun e w' => e = .returned (.int .i64 (Pl.fld k (F i))) ∧ w' = W.alloc (.cells #[.int .i64 (F i).t, .int .i64 (F i).h, .int .i64 (F i).n] 62)) := hf0
            clear hf0
            go_wp2_with fail
            have hmn := fun ts t W => run_mn ts t (Pl.fld k (F p)) (Pl.fld k (F i)) W
            have hmx := fun ts t W => run_mx ts t (Pl.fld k (F q)) (Pl.fld k (F i)) W
            have RB : RoBox B0 w (wr.alloc (.cells #[.int .i64 (F i).t, .int .i64 (F i).h, .int .i64 (F i).n] 62)).drew bf bt n F T wr.heap.size (F i) := ⟨(R.alloc _).drew, (box_new _ _).drew⟩
            refine wp_region_quiet_in (fun W => RoBox B0 w W bf bt n F T wr.heap.size (F i)) (by kernel_rfl) (by kernel_rfl) RB ?_
            intro hne0
            have k0 : ∀ W : Among (fun W => RoBox B0 w W bf bt n F T wr.heap.size (F i)), W.val.cell? ⟨wr.heap.size, 0, none⟩ = some (.int .i64 (F i).t) := fun W => W.ok.box.c0
            have k1 : ∀ W : Among (fun W => RoBox B0 w W bf bt n F T wr.heap.size (F i)), W.val.cell? ⟨wr.heap.size, 1, none⟩ = some (.int .i64 (F i).h) := fun W => W.ok.box.c1
            have k2 : ∀ W : Among (fun W => RoBox B0 w W bf bt n F T wr.heap.size (F i)), W.val.cell? ⟨wr.heap.size, 2, none⟩ = some (.int .i64 (F i).n) := fun W => W.ok.box.c2
            repeat (go_big_quiet_step ((go_at_call 55; exact Calls.in_of (Good := fun W => RoBox B0 w W bf bt n F T wr.heap.size (F i)) (rb_among _ _) (FC.out _))))
            refine wpQuiet_nil ?_
            rintro _ ⟨⟨W, hW⟩, rfl⟩
            clear k0 k1 k2 hne0 RB hmn hmx FC c0 c1 c2
            go_wp2_with fail
            go_roundg (n - (i + 1))
            case measure => omega
            case rel =>
              obtain ⟨p', hp', e1, e2, e3⟩ := mn_pick (fun x => Pl.fld k (F x)) hp hin
              obtain ⟨q', hq', g1, g2, g3⟩ := mx_pick (fun x => Pl.fld k (F x)) hq hin
              refine ⟨i + 1, p', q', by omega, rfl, hp', hq', by go_num, by rw [e1], by rw [g1], hW.ro, fun x hx => ?_⟩
              by_cases e : x = i
              · subst e; exact ⟨e3, g3⟩
              · have := hmm.out x (by omega); exact ⟨Int.le_trans e2 this.1, Int.le_trans this.2 g2⟩
          · have hall : Hid (∀ x, x < n → Pl.fld k (F p) ≤ Pl.fld k (F x) ∧ Pl.fld k (F x) ≤ Pl.fld k (F q)) := fun x hx => hmm.out x (by omega)
            clear hmm
            have hin0 : ∀ i, i < n → F i ∈ Pl.seg F0 0 n := fun i hi => hpm.out.mem_iff.1 (Pl.mem_seg.2 ⟨i, Nat.zero_le _, hi, rfl⟩)
            have hsp : Pl.fld k (F q) - Pl.fld k (F p) ≤ 9223372036854775807 := hSp k hk3 _ (hin0 q hq) _ (hin0 p hp)
            have hlh : Pl.fld k (F p) ≤ Pl.fld k (F q) := (hall.out q hq).1
            have hall2 : Hid (∀ x ∈ Pl.seg F0 0 n, Pl.fld k (F p) ≤ Pl.fld k x ∧ Pl.fld k x ≤ Pl.fld k (F q)) := fun x hx => by
              obtain ⟨i, _, hi, rfl⟩ := Pl.mem_seg.1 (hpm.out.mem_iff.2 hx)
              exact hall.out i hi
            clear hin0 hall hHF hp hq
            generalize Pl.fld k (F p) = lo at *
            generalize Pl.fld k (F q) = hi' at *
            have hst : Hid ((Pl.seg F 0 n).Pairwise (Pl.Upto k lo 0)) := Pl.pw_mono (fun x y h => Pl.upto_start k lo h) hsd.out
            clear hsd
            go_wp2_with fail
            go_loopg [4, 5, 11] 8 (fun g s4 s5 s11 wx => ∃ (m s bf bt : Nat) (F T : Nat → Pl.Key), m ≤ 8 ∧ g = 8 - m ∧ Hid (s = 8 * m) ∧ s ≤ 64 ∧ s11 = .int .i64 s ∧ s4 = .slice (some ⟨bf, 0, none⟩) n n ∧ s5 = .slice (some ⟨bt, 0, none⟩) n n ∧ (bf = bk ∨ bt = bk) ∧
              Ro B0 w wx bf bt n F T ∧ Hid ((Pl.seg F 0 n).Perm (Pl.seg F0 0 n)) ∧ Hid ((Pl.seg F 0 n).Pairwise (Pl.Upto k lo s)))
            case atStart => exact ⟨0, 0, bf, bt, F, T, by omega, rfl, rfl, by omega, rfl, rfl, rfl, hor, R, hpm, hst⟩
            case round =>
              clear hst R hpm hor
              obtain ⟨m, s, bf, bt, F, T, hm, rfl, hs, hs64, rfl, rfl, rfl, hor, R, hpm, hsd⟩ := hrel
              have hz := run_zero65
              by_cases hgt : 0 < (hi' - lo) / 2 ^ s
              · have s56 : s < 64 := by
                  refine Nat.lt_of_not_le fun h => ?_
                  have e : s = 64 := by omega
                  subst e
                  omega
                have hA := arow_new wr
                have R1 := R.alloc (.cells z65 65)
                have hbA : bf ≠ wr.heap.size ∧ bt ≠ wr.heap.size := ⟨by have := R.src.lt; omega, by have := R.dst.lt; omega⟩
                have hB0 : B0 ≤ wr.heap.size := R.size
                generalize hAb : wr.heap.size = A at *
                have hRA : RA B0 w (wr.alloc (.cells z65 65)) bf bt n F T A (fun _ => 0) := ⟨R1, hA, hbA.1, hbA.2, hB0⟩
                go_wp2_with fail
                clear hz R R1 hA hbA hB0 hAb
                go_loopg [81] n (fun g s81 wx => ∃ (i : Nat) (c : Nat → Int), i ≤ n ∧ g = n - i ∧ s81 = .int .i64 i ∧ RA B0 w wx bf bt n F T A c ∧ Hid (c 0 = 0 ∧ ∀ v, v < 256 → c (v + 1) = Pl.cntOf (Pl.byteOf k lo s) (Pl.seg F 0 i) v))
                case atStart => exact ⟨0, _, by omega, rfl, rfl, hRA, rfl, fun v _ => by simp [Pl.seg_self, Pl.cntOf]⟩
                case round =>
                  clear hRA
                  obtain ⟨i, c, hi, rfl, rfl, RAi, hc⟩ := hrel
                  by_cases hin : i < n
                  · have hiz : (i : Int) < (n : Int) := by omega
                    have c0 := RAi.ro.src.c0 hin
                    have c1 := RAi.ro.src.c1 hin
                    have c2 := RAi.ro.src.c2 hin
                    have hfi := hall2.out (F i) (hpm.out.mem_iff.1 (Pl.mem_seg.2 ⟨i, Nat.zero_le _, hin, rfl⟩))
                    have hHi := hH (F i) (hpm.out.mem_iff.1 (Pl.mem_seg.2 ⟨i, Nat.zero_le _, hin, rfl⟩))
                    have FC : Hid (∀ W, Calls Try.prog 55 #[.agg #[.int .i64 (F i).t, .int .i64 (F i).h, .int .i64 (F i).n], .int .i64 (k : Int)] W fun e w' => e = .returned (.int .i64 (Pl.fld k (F i))) ∧ w' = W.alloc (.cells #[.int .i64 (F i).t, .int .i64 (F i).h, .int .i64 (F i).n] 62)) := fun W => field55 k hk3 (F i) W hHi.1 hHi.2
                    clear hHi
                    have hbit := byte_read k lo s (F i) hfi.1
                    have hv256 : Pl.byteOf k lo s (F i) < 256 := Nat.mod_lt _ (by omega)
                    obtain ⟨v, hv⟩ : ∃ v, v = Pl.byteOf k lo s (F i) := ⟨_, rfl⟩
                    have HV : Hid (v = Pl.byteOf k lo s (F i)) := hv
                    rw [← hv] at hbit hv256
                    clear hv
                    have hcl : Hid (c (v + 1) = Pl.cntOf (Pl.byteOf k lo s) (Pl.seg F 0 i) v) := hc.out.2 v hv256
                    have hcb : 0 ≤ c (v + 1) ∧ c (v + 1) ≤ 43690 := by
                      rw [hcl.out]
                      have := List.length_filter_le (fun x => Pl.byteOf k lo s x == v) (Pl.seg F 0 i)
                      rw [Pl.seg_length] at this
                      unfold Pl.cntOf
                      omega
                    go_wp2_with fail
                    refine (FC.out _).mono ?_
                    rintro e w1 ⟨rfl, hw1⟩
                    have RA1 : RA B0 w w1 bf bt n F T A c := by rw [hw1]; exact (RAi.alloc _).alloc _
                    have ca := RA1.cnt.cell (i := v + 1) (by omega)
                    have fa := RA1.cnt.frozen (v + 1)
                    clear hw1 RAi c0 c1 c2 FC
                    generalize hcv : c (v + 1) = x at *
                    have HX : Hid (c (v + 1) = x) := hcv
                    clear hcv
                    go_wp2_with fail
                    go_roundg (n - (i + 1))
                    case measure => omega
                    case rel =>
                      refine ⟨i + 1, _, by omega, rfl, by go_num, RA1.count (v + 1) (x + 1), ?_, fun u hu => ?_⟩
                      · rw [Pl.upd_ne _ _ (by omega)]; exact hc.out.1
                      · have e1 : Pl.seg F 0 (i + 1) = Pl.seg F 0 i ++ [F i] := Pl.seg_succ F (Nat.zero_le _)
                        have e2 : Pl.cntOf (Pl.byteOf k lo s) (Pl.seg F 0 (i + 1)) u = Pl.cntOf (Pl.byteOf k lo s) (Pl.seg F 0 i) u + if Pl.byteOf k lo s (F i) = u then 1 else 0 := by
                          rw [e1]; unfold Pl.cntOf; rw [List.filter_append, List.length_append]
                          by_cases e : Pl.byteOf k lo s (F i) = u <;> simp [e]
                        rw [e2, ← HV.out]
                        by_cases e : u = v
                        · subst e; rw [Pl.upd_at, if_pos rfl, ← HX.out, hc.out.2 u hu]; omega
                        · rw [Pl.upd_ne _ _ (by omega), if_neg (by omega)]; exact hc.out.2 u hu
                  · have hcn : Hid (c 0 = 0 ∧ ∀ v, v < 256 → c (v + 1) = Pl.cntOf (Pl.byteOf k lo s) (Pl.seg F 0 n) v) := by
                      have e : i = n := by omega
                      rw [← e]; exact hc
                    clear hc
                    go_wp2_with fail
                    go_loopg [15] 256 (fun g s15 wx => ∃ (b : Nat) (c : Nat → Int), b ≤ 256 ∧ g = 256 - b ∧ s15 = .int .i64 ((b : Int) + 1) ∧ RA B0 w wx bf bt n F T A c ∧ Hid ((∀ v, v ≤ b → c v = Pl.startOf (Pl.byteOf k lo s) (Pl.seg F 0 n) v) ∧ ∀ v, b ≤ v → v < 256 → c (v + 1) = Pl.cntOf (Pl.byteOf k lo s) (Pl.seg F 0 n) v))
                    case atStart => exact ⟨0, c, by omega, rfl, by go_num, RAi, fun v hv => by rw [show v = 0 by omega, Pl.startOf_zero]; exact hcn.out.1, fun v _ hv => hcn.out.2 v hv⟩
                    case round =>
                      clear hcn RAi
                      obtain ⟨b, c, hb, rfl, rfl, RAi, hc⟩ := hrel
                      by_cases hb6 : b < 256
                      · have hbz : ((b : Int) + 1) < 257 := by omega
                        have ca := RAi.cnt.cell (i := b + 1) (by omega)
                        have cb := RAi.cnt.cell (i := b) (by omega)
                        have fa := RAi.cnt.frozen (b + 1)
                        have e1 := hc.out.1 b (Nat.le_refl _)
                        have e2 := hc.out.2 b (Nat.le_refl _) hb6
                        have e3 := Pl.startOf_succ (Pl.byteOf k lo s) (Pl.seg F 0 n) b
                        have e4 := Pl.startOf_le (Pl.byteOf k lo s) (Pl.seg F 0 n) (b + 1)
                        rw [Pl.seg_length] at e4
                        rw [e2] at ca
                        rw [e1] at cb
                        have HE : Hid (Pl.startOf (Pl.byteOf k lo s) (Pl.seg F 0 n) (b + 1) = Pl.startOf (Pl.byteOf k lo s) (Pl.seg F 0 n) b + Pl.cntOf (Pl.byteOf k lo s) (Pl.seg F 0 n) b) := e3
                        rw [e3] at e4
                        clear e1 e2 e3
                        generalize Pl.startOf (Pl.byteOf k lo s) (Pl.seg F 0 n) b = x at *
                        generalize Pl.cntOf (Pl.byteOf k lo s) (Pl.seg F 0 n) b = y at *
                        go_wp2_with fail
                        go_region
                        go_wp2_with fail
                        go_roundg (256 - (b + 1))
                        case measure => omega
                        case rel =>
                          refine ⟨b + 1, _, by omega, rfl, by go_num, (RAi.count (b + 1) _).drew, fun u hu => ?_, fun u hu hu2 => ?_⟩
                          · by_cases e : u = b + 1
                            · subst e; rw [Pl.upd_at, HE.out]; omega
                            · rw [Pl.upd_ne _ _ e]; exact hc.out.1 u (by omega)
                          · rw [Pl.upd_ne _ _ (by omega)]; exact hc.out.2 u (by omega) hu2
                      · have hcn : Hid (∀ v, v ≤ 256 → c v = Pl.startOf (Pl.byteOf k lo s) (Pl.seg F 0 n) v) := fun v hv => hc.out.1 v (by omega)
                        clear hc
                        go_wp2_with fail
                        go_loopg [114] n (fun g s114 wx => ∃ (i : Nat) (c : Nat → Int) (T : Nat → Pl.Key), i ≤ n ∧ g = n - i ∧ s114 = .int .i64 i ∧ RA B0 w wx bf bt n F T A c ∧
                          Hid (∀ v, v < 256 → c v = Pl.startOf (Pl.byteOf k lo s) (Pl.seg F 0 n) v + Pl.cntOf (Pl.byteOf k lo s) (Pl.seg F 0 i) v) ∧ Hid (∀ j, j < i → T (Pl.posF (Pl.byteOf k lo s) F n j) = F j))
                        case atStart => exact ⟨0, c, T, by omega, rfl, rfl, RAi, fun v hv => by rw [hcn.out v (by omega)]; simp [Pl.seg_self, Pl.cntOf], fun j hj => by omega⟩
                        case round =>
                          clear hcn RAi
                          obtain ⟨i, c, T, hi, rfl, rfl, RAi, hc, hT⟩ := hrel
                          by_cases hin : i < n
                          · have hiz : (i : Int) < (n : Int) := by omega
                            have c0 := RAi.ro.src.c0 hin
                            have c1 := RAi.ro.src.c1 hin
                            have c2 := RAi.ro.src.c2 hin
                            have hfi := hall2.out (F i) (hpm.out.mem_iff.1 (Pl.mem_seg.2 ⟨i, Nat.zero_le _, hin, rfl⟩))
                            have hHi := hH (F i) (hpm.out.mem_iff.1 (Pl.mem_seg.2 ⟨i, Nat.zero_le _, hin, rfl⟩))
                            have FC : Hid (∀ W, Calls Try.prog 55 #[.agg #[.int .i64 (F i).t, .int .i64 (F i).h, .int .i64 (F i).n], .int .i64 (k : Int)] W fun e w' => e = .returned (.int .i64 (Pl.fld k (F i))) ∧ w' = W.alloc (.cells #[.int .i64 (F i).t, .int .i64 (F i).h, .int .i64 (F i).n] 62)) := fun W => field55 k hk3 (F i) W hHi.1 hHi.2
                            clear hHi
                            have hbit := byte_read k lo s (F i) hfi.1
                            have hv256 : Pl.byteOf k lo s (F i) < 256 := Nat.mod_lt _ (by omega)
                            have hpl := Pl.posF_lt (Pl.byteOf k lo s) F hin
                            have hcv : c (Pl.byteOf k lo s (F i)) = ((Pl.posF (Pl.byteOf k lo s) F n i : Nat) : Int) := by rw [hc.out _ hv256]; unfold Pl.posF; omega
                            obtain ⟨v, hv⟩ : ∃ v, v = Pl.byteOf k lo s (F i) := ⟨_, rfl⟩
                            have HV : Hid (v = Pl.byteOf k lo s (F i)) := hv
                            obtain ⟨p, hp⟩ : ∃ p, p = Pl.posF (Pl.byteOf k lo s) F n i := ⟨_, rfl⟩
                            have HP : Hid (p = Pl.posF (Pl.byteOf k lo s) F n i) := hp
                            rw [← hv] at hbit hv256 hcv
                            rw [← hp] at hcv hpl
                            have HC : Hid (c v = (p : Int)) := hcv
                            have hpz : (p : Int) < (n : Int) := by omega
                            clear hv hp
                            go_wp2_with fail
                            refine (FC.out _).mono ?_
                            rintro e w1 ⟨rfl, hw1⟩
                            have RA1 : RA B0 w w1 bf bt n F T A c := by rw [hw1]; exact (RAi.alloc _).alloc _
                            have bx : Box w1 wr.heap.size (F i) := by rw [hw1]; exact (box_new _ _).alloc _
                            have ca := RA1.cnt.cell (i := v) (by omega)
                            rw [hcv] at ca
                            have x0 := bx.c0
                            have x1 := bx.c1
                            have x2 := bx.c2
                            have t0 := RA1.ro.dst.c0 hpl
                            have t1 := RA1.ro.dst.c1 hpl
                            have t2 := RA1.ro.dst.c2 hpl
                            have z0 := RA1.ro.dst.fz (p * 3)
                            have z1 := RA1.ro.dst.fz (p * 3 + 1)
                            have z2 := RA1.ro.dst.fz (p * 3 + 2)
                            clear hw1 RAi c0 c1 c2 FC hcv
                            go_wp2_with fail
                            go_region
                            have RA2 := RA1.put p (F i)
                            have ca2 := RA2.cnt.cell (i := v) (by omega)
                            rw [HC.out] at ca2
                            have fa2 := RA2.cnt.frozen v
                            clear ca x0 x1 x2 t0 t1 t2 z0 z1 z2 bx RA1
                            go_wp2_with fail
                            go_roundg (n - (i + 1))
                            case measure => omega
                            case rel =>
                              refine ⟨i + 1, _, _, by omega, rfl, by go_num, (RA2.count v ((p : Int) + 1)).drew, fun u hu => ?_, fun j hj => ?_⟩
                              · have e1 : Pl.seg F 0 (i + 1) = Pl.seg F 0 i ++ [F i] := Pl.seg_succ F (Nat.zero_le _)
                                have e2 : Pl.cntOf (Pl.byteOf k lo s) (Pl.seg F 0 (i + 1)) u = Pl.cntOf (Pl.byteOf k lo s) (Pl.seg F 0 i) u + if Pl.byteOf k lo s (F i) = u then 1 else 0 := by
                                  rw [e1]; unfold Pl.cntOf; rw [List.filter_append, List.length_append]
                                  by_cases e : Pl.byteOf k lo s (F i) = u <;> simp [e]
                                rw [e2, ← HV.out]
                                by_cases e : u = v
                                · subst e; rw [Pl.upd_at, if_pos rfl, ← HC.out, hc.out u hu]; omega
                                · rw [Pl.upd_ne _ _ (by omega), if_neg (by omega)]; exact hc.out u hu
                              · by_cases e : j = i
                                · subst e; rw [← HP.out, Pl.upd_at]
                                · have := Pl.posF_ne (Pl.byteOf k lo s) F hin (show j < i by omega)
                                  rw [← HP.out] at this
                                  rw [Pl.upd_ne _ _ this]
                                  exact hT.out j (by omega)
                          · have hps := Pl.passF_done (Pl.byteOf k lo s) F T n 256 (fun x _ => Nat.mod_lt _ (by omega)) (fun j hj => hT.out j (by omega))
                            have HPS : Hid (Pl.seg T 0 n = Pl.buckets (Pl.byteOf k lo s) (Pl.seg F 0 n) 256) := hps
                            have Rn := RAi.ro
                            clear hps hc hT RAi
                            go_wp2_with fail
                            go_roundg (8 - (m + 1))
                            case measure => have := hs.out; omega
                            case rel =>
                              have hs' := hs.out
                              refine ⟨m + 1, s + 8, bt, bf, T, F, by omega, rfl, (show s + 8 = 8 * (m + 1) by omega), by omega, by go_num, rfl, rfl, hor.symm, Rn.swap, ?_, ?_⟩
                              · show (Pl.seg T 0 n).Perm _
                                rw [HPS.out]
                                exact (Pl.buckets_perm_all (fun x _ => Nat.mod_lt _ (by omega))).trans hpm.out
                              · show (Pl.seg T 0 n).Pairwise _
                                rw [HPS.out]
                                exact Pl.pw_mono (fun x y h => Pl.upto_step k lo s h) (Pl.buckets_pairwise (Pl.byteOf k lo s) hsd.out 256)
              · clear hz
                go_wp2_with fail
                go_roundg (3 - (k + 1))
                case measure => omega
                case rel =>
                  refine ⟨k + 1, bf, bt, F, T, by omega, rfl, by go_num, rfl, rfl, hor, R, hpm.out, ?_⟩
                  have hsm : ∀ x ∈ Pl.seg F 0 n, lo ≤ Pl.fld k x ∧ Pl.above k lo x < 2 ^ s := by
                    intro x hx
                    have hx2 := hall2.out x (hpm.out.mem_iff.1 hx)
                    refine ⟨hx2.1, ?_⟩
                    have hp : (0 : Int) < 2 ^ s := Int.pow_pos (by omega)
                    have h1 : hi' - lo < 2 ^ s := by
                      refine Int.lt_of_not_ge fun h => ?_
                      have := Int.ediv_le_ediv hp h
                      rw [Int.ediv_self (by omega)] at this
                      omega
                    unfold Pl.above
                    have h2 : ((2 ^ s : Nat) : Int) = (2 : Int) ^ s := by rw [Int.natCast_pow]; rfl
                    omega
                  exact List.Pairwise.imp_of_mem (fun {x y} hx hy h => Pl.upto_end k lo s (hsm x hx).1 (hsm y hy).1 (hsm x hx).2 (hsm y hy).2 h) hsd.out
    · have ek : k = 3 := by omega
      subst ek
      obtain ⟨c, hcp, hck⟩ : ∃ c : Array Value, (∀ ty, (Builtin.copy_ #[46, 46] ty #[.slice (some ⟨bk, 0, none⟩) n n, .slice (some ⟨bf, 0, none⟩) n n]).run Try.prog wr = .ok (goInt n) (wr.setRow bk c)) ∧ KRow (wr.setRow bk c) bk n F := by
        rcases hor with rfl | rfl
        · exact run_copy_keys R.src R.src
        · exact run_copy_keys R.src R.dst
      go_wp2_with fail
      go_end0
      exact ⟨rfl, F, hck, hpm.out, hsd.out, R.bel.trans ⟨rfl, rfl, rfl, by simp [World.setRow], fun k hk => setRow_other wr bk k c (by omega)⟩⟩
end Go.Proofs.Qxb6602564a
