/-
  sortedKeys (25): a bottom-up merge sort of the keys' indices.
-/
import Derived.Test.Qxb6602564aSrt1
namespace Go.Proofs.Qxb6602564a
open Go.RowKit

/-- A row of indices that a call has made. -/
abbrev NRow (w : World) (b n : Nat) (f : Nat → Nat) : Prop := w.rowIs b 3 n (fun i => .int .i64 ((f i : Nat) : Int))

/-- Two rows of indices that the call has made, side by side. -/
structure TwoN (w wr : World) (bs bd n : Nat) (f d : Nat → Nat) : Prop where
  src : NRow wr bs n f
  dst : NRow wr bd n d
  ne : bs ≠ bd
  s1 : w.heap.size ≤ bs
  d1 : w.heap.size ≤ bd
  bel : Below w.heap.size w wr

theorem TwoN.store {w wr : World} {bs bd n : Nat} {f d : Nat → Nat} (h : TwoN w wr bs bd n f d) (k : Nat) (s : Nat) : TwoN w (wr.setCell ⟨bd, k, none⟩ (.int .i64 (s : Int))) bs bd n f (Pl.upd d k s) :=
  ⟨h.src.setOther h.ne _, (h.dst.set k (.int .i64 (s : Int))).congr fun i _ => by unfold Pl.upd; split <;> rfl, h.ne, h.s1, h.d1, h.bel.setCell h.d1 _⟩

theorem TwoN.swap {w wr : World} {bs bd n : Nat} {f d : Nat → Nat} (h : TwoN w wr bs bd n f d) : TwoN w wr bd bs n d f := ⟨h.dst, h.src, h.ne.symm, h.d1, h.s1, h.bel⟩

theorem TwoN.alike {w wr wx : World} {bs bd n : Nat} {f d : Nat → Nat} (h : TwoN w wr bs bd n f d) (e : wx.heap = wr.heap) (e1 : wx.os = wr.os) (e2 : wx.tape = wr.tape) (e3 : wx.output = wr.output) : TwoN w wx bs bd n f d :=
  ⟨h.src.of_block (by rw [e]), h.dst.of_block (by rw [e]), h.ne, h.s1, h.d1, h.bel.trans ⟨e1, e2, e3, by rw [e]; exact Nat.le_refl _, fun k _ => by rw [e]⟩⟩

/-- keyBefore on indices. -/
def ibef (K : Nat → Pl.Key) (i j : Nat) : Bool := kbef (K i) (K j)
theorem ibef_strict (K : Nat → Pl.Key) : Pl.Strict (ibef K) := ⟨fun a b => kbef_strict.asymm (K a) (K b), fun a b c => kbef_strict.trans (K a) (K b) (K c)⟩

set_option maxRecDepth 100000 in
set_option maxHeartbeats 1000000 in
theorem sorted25 (a0 : Option Addr) (n c0 : Nat) (ts : Nat → Int) (a1 : Option Addr) (c1 : Nat) (hs : Nat → Int) (a2 : Option Addr) (c2 : Nat) (ns : Nat → Int) (w : World)
    (h0 : IntsAt w w.heap.size a0 n ts) (h1 : IntsAt w w.heap.size a1 n hs) (h2 : IntsAt w w.heap.size a2 n ns) (hn : n ≤ 43690) :
    Calls Try.prog 25 #[.slice a0 n c0, .slice a1 n c1, .slice a2 n c2] w fun e w' => ∃ b0 b1 b2 f, e = .returned (.tuple #[.slice b0 n n, .slice b1 n n, .slice b2 n n]) ∧
      IntsAt w' w'.heap.size b0 n (fun i => ts (f i)) ∧ IntsAt w' w'.heap.size b1 n (fun i => hs (f i)) ∧ IntsAt w' w'.heap.size b2 n (fun i => ns (f i)) ∧
      Hid ((Pl.seg f 0 n).Perm (Pl.seg id 0 n)) ∧ Hid (Pl.InOrder (ibef (fun i => ⟨ts i, hs i, ns i⟩)) f 0 n) ∧ Below w.heap.size w w' := by
  have hmk := run_make_row' (P := Try.prog) 26 3 (.int .i64 0) 8 Try.underlying26 info3 rfl .i64 .i64 n (by omega) (by omega)
  have H012 : Hid (IntsAt w w.heap.size a0 n ts ∧ IntsAt w w.heap.size a1 n hs ∧ IntsAt w w.heap.size a2 n ns) := ⟨h0, h1, h2⟩
  clear h0 h1 h2
  go_enter Try.func25, Try.ntmps25
  go_wp2_with fail
  go_loopg [11] n (fun g i wr => ∃ k : Nat, k ≤ n ∧ g = n - k ∧ i = .int .i64 k ∧ (∃ f, NRow wr w.heap.size n f ∧ Hid (∀ x, x < k → f x = x)) ∧ Below w.heap.size w wr ∧ wr.heap.size = w.heap.size + 1)
  case atStart => exact ⟨0, Nat.zero_le _, by omega, rfl, ⟨fun _ => 0, World.rowIs_made w (.int .i64 0) n 3, fun x hx => by omega⟩, (Below.refl _ _).alloc (Nat.le_refl _) _, by simp⟩
  case round =>
    obtain ⟨k, hk, rfl, rfl, ⟨f, hrow, hf⟩, hbel, hN⟩ := hrel
    by_cases hlt : k < n
    · have hdk := hrow.cell hlt
      have hfk := hrow.frozen k
      clear hmk
      go_wp2_with fail
      go_roundg (n - (k + 1))
      case measure => omega
      case rel =>
        refine ⟨k + 1, by omega, rfl, by go_num, ⟨Pl.upd f k k, (hrow.set k (.int .i64 (k : Int))).congr fun i _ => by unfold Pl.upd; split <;> rfl, fun x hx => ?_⟩, hbel.setCell (Nat.le_refl _) _, by simpa using hN⟩
        by_cases e : x = k
        · subst e; rw [Pl.upd_at]
        · rw [Pl.upd_ne _ _ e]; exact hf.out x (by omega)
    · have hrow0 : NRow wr w.heap.size n id := World.rowIs.congr hrow fun i hi => by rw [hf.out i (by omega)]; rfl
      clear hf hrow
      go_wp2_with fail
      go_loopg [10, 12, 13] (2 * n) (fun g s4 s6 s7 wx => ∃ (bs bd wd : Nat) (f d : Nat → Nat), s4 = .slice (some ⟨bs, 0, none⟩) n n ∧ s6 = .slice (some ⟨bd, 0, none⟩) n n ∧ s7 = .int .i64 wd ∧ 1 ≤ wd ∧ wd ≤ 2 * n + 1 ∧ g = 2 * n + 1 - wd ∧
        TwoN w wx bs bd n f d ∧ Hid (Pl.Chunks (ibef (fun i => ⟨ts i, hs i, ns i⟩)) f n wd) ∧ Hid ((Pl.seg f 0 n).Perm (Pl.seg id 0 n)))
      case atStart =>
        refine ⟨w.heap.size, w.heap.size + 1, 1, id, fun _ => 0, rfl, rfl, rfl, by omega, by omega, by omega, ⟨hrow0.alloc _, ?_, by omega, by omega, by omega, hbel.alloc (by omega) _⟩, Pl.chunks_one _ _ _, List.Perm.refl _⟩
        have := World.rowIs_made wr (.int .i64 0) n 3
        rw [hN] at this
        exact this
      case round =>
        clear hrow0 hbel hN hlt hk
        obtain ⟨bs, bd, wd, f, d, rfl, rfl, rfl, hw1, hw2, rfl, T, hch, hpm⟩ := hrel
        by_cases hwl : wd < n
        · clear hmk
          go_wp2_with fail
          go_loopg [14] n (fun g s8 wx => ∃ (lo q : Nat) (d : Nat → Nat), s8 = .int .i64 lo ∧ lo ≤ n + 2 * wd ∧ g = n - lo ∧ TwoN w wx bs bd n f d ∧ Hid (Pl.LInv (ibef (fun i => ⟨ts i, hs i, ns i⟩)) f d n wd q lo))
          case atStart => exact ⟨0, 0, d, rfl, by omega, by omega, T, Pl.LInv.start _ _ _ _ _⟩
          case round =>
            clear T
            obtain ⟨lo, q, d, rfl, hlo, rfl, T, hL⟩ := hrel
            by_cases hll : lo < n
            · go_upto_if 56 with fail
              go_cut [15] (fun m wx => wr = wx ∧ ∃ mid : Nat, m = .int .i64 mid ∧ Hid (mid = min (lo + wd) n) ∧ lo ≤ mid ∧ mid ≤ n)
              case first =>
                by_cases hm : n < lo + wd
                · go_wp2_with fail
                  go_meet
                  exact ⟨rfl, n, rfl, (show n = _ by omega), by omega, by omega⟩
                · go_wp2_with fail
                  go_meet
                  exact ⟨rfl, lo + wd, by go_num, (show lo + wd = _ by omega), by omega, by omega⟩
              case rest =>
                obtain ⟨rfl, mid, rfl, hmid, hm1, hm2⟩ := hcut
                go_upto_if 64 with fail
                go_cut [16] (fun m wx => wr = wx ∧ ∃ hi : Nat, m = .int .i64 hi ∧ Hid (hi = min (lo + 2 * wd) n) ∧ hi ≤ n)
                case first =>
                  by_cases hm : n < lo + 2 * wd
                  · go_wp2_with fail
                    go_meet
                    exact ⟨rfl, n, rfl, (show n = _ by omega), by omega⟩
                  · go_wp2_with fail
                    go_meet
                    exact ⟨rfl, lo + 2 * wd, by go_num, (show lo + 2 * wd = _ by omega), by omega⟩
                case rest =>
                  obtain ⟨rfl, hi, rfl, hhi, hh2⟩ := hcut
                  have hmh : mid ≤ hi := by have := hmid.out; have := hhi.out; omega
                  go_wp2_with fail
                  go_loopg [17, 18, 19] (hi - lo) (fun g s11 s12 s13 wx => ∃ (i j k : Nat) (d' : Nat → Nat), s11 = .int .i64 i ∧ s12 = .int .i64 j ∧ s13 = .int .i64 k ∧ g = hi - k ∧ TwoN w wx bs bd n f d' ∧
                    Hid (∀ x, x < lo → d' x = d x) ∧ Hid (Pl.MInv (ibef (fun i => ⟨ts i, hs i, ns i⟩)) f d' lo mid hi i j k))
                  case atStart => exact ⟨lo, mid, lo, d, rfl, rfl, rfl, rfl, T, fun _ _ => rfl, Pl.MInv.start _ _ _ hm1 hmh⟩
                  case round =>
                    clear T
                    obtain ⟨i, j, k, d', rfl, rfl, rfl, rfl, T, hold, hM⟩ := hrel
                    have m1 := hM.out.i1
                    have m2 := hM.out.i2
                    have m3 := hM.out.j1
                    have m4 := hM.out.j2
                    have m5 : k ≤ hi := by have := hM.out.k1; omega
                    have m6 : lo ≤ k := by have := hM.out.k1; omega
                    by_cases hkh : k < hi
                    · have hkz : (k : Int) < (hi : Int) := by omega
                      have hkl : k < n := by omega
                      have cd := T.dst.cell hkl
                      have fd := T.dst.frozen k
                      have hfn : ∀ x, x < n → f x < n := fun x hx => by
                        have := hpm.out.mem_iff.1 (Pl.mem_seg.2 ⟨x, Nat.zero_le _, hx, rfl⟩)
                        obtain ⟨y, _, hy, e⟩ := Pl.mem_seg.1 this
                        exact e ▸ hy
                      by_cases hj : j < hi
                      · have hjz : (j : Int) < (hi : Int) := by omega
                        have hjl : j < n := by omega
                        have cj := T.src.cell hjl
                        by_cases hi' : i < mid
                        · have hid : decide ((mid : Int) ≤ (i : Int)) = false := decide_eq_false (by omega)
                          have hil : i < n := by omega
                          have ci := T.src.cell hil
                          have KB : Hid (∀ q, Calls Try.prog 47 #[.slice a0 n c0, .slice a1 n c1, .slice a2 n c2, .int .i64 ((f j : Nat) : Int), .int .i64 ((f i : Nat) : Int)] (wr.drewN q) fun e w' => e = .returned (.bool (ibef (fun i => ⟨ts i, hs i, ns i⟩) (f j) (f i))) ∧ ∃ m, w' = (wr.drewN q).drewN m) := fun q =>
                            before47 a0 n c0 ts a1 c1 hs a2 c2 ns (f j) (f i) (wr.drewN q) (H012.out.1.keep (T.bel.trans ⟨rfl, rfl, rfl, Nat.le_refl _, fun _ _ => rfl⟩) T.bel.size) (H012.out.2.1.keep (T.bel.trans ⟨rfl, rfl, rfl, Nat.le_refl _, fun _ _ => rfl⟩) T.bel.size)
                              (H012.out.2.2.keep (T.bel.trans ⟨rfl, rfl, rfl, Nat.le_refl _, fun _ _ => rfl⟩) T.bel.size) (hfn j hjl) (hfn i hil)
                          clear hfn
                          cases hc : ibef (fun i => ⟨ts i, hs i, ns i⟩) (f j) (f i) with
                          | true =>
                            rw [hc] at KB
                            have HC : Hid (ibef (fun i => ⟨ts i, hs i, ns i⟩) (f j) (f i) = true) := hc
                            clear hc
                            go_wp2_with fail
                            go_quiet ((go_at_call 47; exact Calls.quiet_of (KB.out _)))
                            clear KB
                            go_wp2_with fail
                            go_roundg (hi - (k + 1))
                            case measure => omega
                            case rel => exact ⟨i, j + 1, k + 1, _, rfl, by go_num, by go_num, rfl, (T.store k (f j)).alike rfl rfl rfl rfl, fun x hx => (Pl.upd_ne _ _ (by omega)).trans (hold.out x hx), hM.out.takeJ (ibef_strict _) (by rw [hmid.out, hhi.out]; exact Pl.Chunks.right hch.out hL.out.lo1) hj (fun _ => HC.out)⟩
                          | false =>
                            rw [hc] at KB
                            have HC : Hid (ibef (fun i => ⟨ts i, hs i, ns i⟩) (f j) (f i) = false) := hc
                            clear hc
                            go_wp2_with fail
                            go_quiet ((go_at_call 47; exact Calls.quiet_of (KB.out _)))
                            clear KB
                            go_wp2_with fail
                            go_roundg (hi - (k + 1))
                            case measure => omega
                            case rel => exact ⟨i + 1, j, k + 1, _, by go_num, rfl, by go_num, rfl, (T.store k (f i)).alike rfl rfl rfl rfl, fun x hx => (Pl.upd_ne _ _ (by omega)).trans (hold.out x hx), hM.out.takeI (ibef_strict _) (by rw [hmid.out]; exact Pl.Chunks.left hch.out hL.out.lo1) hi' (fun _ => HC.out)⟩
                        · have hid : (mid : Int) ≤ (i : Int) := by omega
                          clear hfn
                          go_wp2_with fail
                          go_quiet (fail)
                          go_wp2_with fail
                          go_roundg (hi - (k + 1))
                          case measure => omega
                          case rel => exact ⟨i, j + 1, k + 1, _, rfl, by go_num, by go_num, rfl, (T.store k (f j)).alike rfl rfl rfl rfl, fun x hx => (Pl.upd_ne _ _ (by omega)).trans (hold.out x hx), hM.out.takeJ (ibef_strict _) (by rw [hmid.out, hhi.out]; exact Pl.Chunks.right hch.out hL.out.lo1) hj (fun h => absurd h hi')⟩
                      · have hjd : decide ((j : Int) < (hi : Int)) = false := decide_eq_false (by omega)
                        have hi' : i < mid := by have := hM.out.k1; omega
                        have hil : i < n := by omega
                        have ci := T.src.cell hil
                        clear hfn
                        go_wp2_with fail
                        go_quiet (fail)
                        go_wp2_with fail
                        go_roundg (hi - (k + 1))
                        case measure => omega
                        case rel => exact ⟨i + 1, j, k + 1, _, by go_num, rfl, by go_num, rfl, (T.store k (f i)).alike rfl rfl rfl rfl, fun x hx => (Pl.upd_ne _ _ (by omega)).trans (hold.out x hx), hM.out.takeI (ibef_strict _) (by rw [hmid.out]; exact Pl.Chunks.left hch.out hL.out.lo1) hi' (fun h => absurd h hj)⟩
                    · go_wp2_with fail
                      go_roundg (n - (lo + 2 * wd))
                      case measure => omega
                      case rel =>
                        have eh := hhi.out
                        have em := hmid.out
                        have ek : k = hi := by omega
                        refine ⟨lo + 2 * wd, q + 1, d', by go_num, by omega, rfl, T, ?_⟩
                        have h := hM.out
                        rw [ek, eh, em] at h
                        exact hL.out.step hll hold.out h
            · go_wp2_with fail
              go_roundg (2 * n + 1 - 2 * wd)
              case measure => omega
              case rel => exact ⟨bd, bs, 2 * wd, d, f, rfl, rfl, by go_num, by omega, by omega, rfl, T.swap, (hL.out.done (by omega)).2, (hL.out.done (by omega)).1.trans hpm.out⟩
        · have hord : Hid (Pl.InOrder (ibef (fun i => ⟨ts i, hs i, ns i⟩)) f 0 n) := Pl.chunks_whole hch.out (by omega)
          have hbs : bs < wr.heap.size := T.src.lt
          have hwz : w.heap.size ≤ wr.heap.size := T.bel.size
          obtain ⟨W0, rfl⟩ : ∃ W0, W0 = wr := ⟨wr, rfl⟩
          have hfn : Hid (∀ x, x < n → f x < n) := fun x hx => by
            have := hpm.out.mem_iff.1 (Pl.mem_seg.2 ⟨x, Nat.zero_le _, hx, rfl⟩)
            obtain ⟨y, _, hy, e⟩ := Pl.mem_seg.1 this
            exact e ▸ hy
          clear hch
          go_wp2_with fail
          clear hmk
          go_loopg [23] n (fun g i wx => ∃ k : Nat, k ≤ n ∧ g = n - k ∧ i = .int .i64 k ∧ (∃ f0 f1 f2, IRow wx W0.heap.size n f0 ∧ IRow wx (W0.heap.size + 1) n f1 ∧ IRow wx (W0.heap.size + 2) n f2 ∧
            Hid (∀ x, x < k → f0 x = ts (f x) ∧ f1 x = hs (f x) ∧ f2 x = ns (f x))) ∧ Below W0.heap.size W0 wx ∧ W0.heap.size + 2 < wx.heap.size)
          case atStart =>
            have r0 := World.rowIs_made W0 (.int .i64 0) n 3
            have r1 := World.rowIs_made (W0.alloc (.cells (madeCells #[.int .i64 0] n) 3)) (.int .i64 0) n 3
            have r2 := World.rowIs_made ((W0.alloc (.cells (madeCells #[.int .i64 0] n) 3)).alloc (.cells (madeCells #[.int .i64 0] n) 3)) (.int .i64 0) n 3
            simp only [World.size_alloc] at r1 r2
            exact ⟨0, Nat.zero_le _, by omega, rfl, ⟨_, _, _, (r0.alloc _).alloc _, r1.alloc _, r2, fun x hx => by omega⟩, (((Below.refl _ _).alloc (Nat.le_refl _) _).alloc (by simp) _).alloc (by simp; omega) _, by simp⟩
          case round =>
            obtain ⟨k, hk, rfl, rfl, ⟨f0, f1, f2, r0, r1, r2, hf⟩, hbel, hN⟩ := hrel
            have hIn : IntsAt wr wr.heap.size a0 n ts ∧ IntsAt wr wr.heap.size a1 n hs ∧ IntsAt wr wr.heap.size a2 n ns := by
              have hb := T.bel.trans (hbel.mono T.bel.size)
              exact ⟨H012.out.1.keep hb hb.size, H012.out.2.1.keep hb hb.size, H012.out.2.2.keep hb hb.size⟩
            by_cases hlt : k < n
            · obtain ⟨b0, o0, rfl, hb0, k0⟩ := hIn.1 (by omega)
              obtain ⟨b1, o1, rfl, hb1, k1⟩ := hIn.2.1 (by omega)
              obtain ⟨b2, o2, rfl, hb2, k2⟩ := hIn.2.2 (by omega)
              obtain ⟨e0, hq0⟩ : b0 < W0.heap.size ∧ b1 < W0.heap.size := by
                obtain ⟨x0, _, y0, z0, _⟩ := H012.out.1 (by omega)
                obtain ⟨x1, _, y1, z1, _⟩ := H012.out.2.1 (by omega)
                cases y0; cases y1
                exact ⟨by omega, by omega⟩
              have hq2 : b2 < W0.heap.size := by
                obtain ⟨x0, _, y0, z0, _⟩ := H012.out.2.2 (by omega)
                cases y0
                omega
              have hfk := hfn.out k hlt
              have hfz : ((f k : Nat) : Int) < (n : Int) := by omega
              have g0 := k0 (f k) hfk
              have g1 := k1 (f k) hfk
              have g2 := k2 (f k) hfk
              have sk := (hbel.cell (p := ⟨bs, k, none⟩) hbs).trans (T.src.cell hlt)
              have d0 := r0.cell hlt
              have d1 := r1.cell hlt
              have d2 := r2.cell hlt
              have z0 := r0.frozen k
              have z1 := r1.frozen k
              have z2 := r2.frozen k
              have n1 : b1 ≠ W0.heap.size := by omega
              have n2 : b2 ≠ W0.heap.size := by omega
              have n3 : b2 ≠ W0.heap.size + 1 := by omega
              have n4 : bs ≠ W0.heap.size := by omega
              have n5 : bs ≠ W0.heap.size + 1 := by omega
              clear hIn k0 k1 k2 H012 hb0 hb1 hb2
              go_wp2_with fail
              go_roundg (n - (k + 1))
              case measure => omega
              case rel =>
                refine ⟨k + 1, by omega, rfl, by go_num, ⟨_, _, _, ((r0.store k _).other (by omega) _).other (by omega) _, ((r1.other (by omega) _).store k _).other (by omega) _, ((r2.other (by omega) _).other (by omega) _).store k _, fun x hx => ?_⟩, ((hbel.setCell (Nat.le_refl _) _).setCell (Nat.le_add_right _ _) _).setCell (Nat.le_add_right _ 2) _, by simpa using hN⟩
                by_cases e : x = k
                · subst e; rw [Pl.upd_at, Pl.upd_at, Pl.upd_at]; exact ⟨rfl, rfl, rfl⟩
                · rw [Pl.upd_ne _ _ e, Pl.upd_ne _ _ e, Pl.upd_ne _ _ e]; exact hf.out x (by omega)
            · clear hIn
              go_wp2_with fail
              go_ret3
              exact ⟨_, _, _, f, rfl, (r0.re fun i hi => (hf.out i (by omega)).1).at (by omega), (r1.re fun i hi => (hf.out i (by omega)).2.1).at (by omega), (r2.re fun i hi => (hf.out i (by omega)).2.2).at (by omega), hpm, hord, T.bel.trans (hbel.mono T.bel.size)⟩
end Go.Proofs.Qxb6602564a
