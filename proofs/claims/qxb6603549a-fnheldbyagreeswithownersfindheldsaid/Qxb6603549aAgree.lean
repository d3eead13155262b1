/-
  FnHeldByAgreesWithOwnersFindHeld's walk.
-/
import Derived.Test.Qxb6603549aAgree1
import Derived.Deep.RegionWith
namespace Go.Proofs.Qxb6603549a
open Go.RowKit

set_option maxRecDepth 100000 in
set_option maxHeartbeats 1000000 in
theorem law5 (a : Option Addr) (n cap : Nat) (md : Nat → Int) (fi : Int) (s : ByteArray) (w : World) (hs : IntsAt w w.heap.size a n md) (hlen : n ≤ maxLen) (hsz : s.size ≤ maxLen) :
    Calls Try.prog 5 #[.slice a n cap, .int .i64 fi, .string s] w fun e w' => e = .returned (.bool true) ∧ Below w.heap.size w w' := by
  go_enter Try.func5, Try.ntmps5
  go_wp2_with fail
  refine (zz15 a n cap fi s _ hlen hsz).mono ?_
  rintro e v1 ⟨rfl | rfl, rfl⟩
  · go_wp2_with fail
    go_ret
    exact ⟨rfl, Below.refl _ _⟩
  unfold maxLen at *
  by_cases g0 : 4096 < n
  · have z0 : (4096 : Int) < (n : Int) := by omega
    go_wp2_with fail
    go_ret
    exact ⟨rfl, Below.refl _ _⟩
  have z0 : decide ((4096 : Int) < (n : Int)) = false := decide_eq_false (by omega)
  by_cases g1 : 65536 < s.size
  · have z1 : (65536 : Int) < (s.size : Int) := by omega
    go_wp2_with fail
    go_ret
    exact ⟨rfl, Below.refl _ _⟩
  have z1 : decide ((65536 : Int) < (s.size : Int)) = false := decide_eq_false (by omega)
  by_cases g2 : 0 < n ∧ (fi < 0 ∨ (n : Int) ≤ fi)
  · have z2 : (0 : Int) < (n : Int) := by omega
    by_cases g3 : fi < 0
    · go_wp2_with fail
      go_ret
      exact ⟨rfl, Below.refl _ _⟩
    · have z3 : decide (fi < 0) = false := decide_eq_false g3
      have z4 : (n : Int) ≤ fi := by omega
      go_wp2_with fail
      go_ret
      exact ⟨rfl, Below.refl _ _⟩
  have hg : Hid (n = 0 ∨ 0 ≤ fi ∧ fi < (n : Int)) := by show _ ∨ _; omega
  have hs0 : Hid (IntsAt v1 v1.heap.size a n md) := hs
  have hn : n ≤ 4096 := by omega
  have hss : s.size ≤ 65536 := by omega
  clear g2 hs
  go_upto_region 6 with fail
  go_cut [53] (fun s53 wx => s53 = .bool false ∧ v1 = wx)
  case first =>
    by_cases hn0 : n = 0
    · subst hn0
      go_wp2_with fail
      go_meet
      exact ⟨rfl, rfl⟩
    · have z2 : (0 : Int) < (n : Int) := by omega
      have z3 : decide (fi < 0) = false := decide_eq_false (by have := hg.out; omega)
      have z4 : decide ((n : Int) ≤ fi) = false := decide_eq_false (by have := hg.out; omega)
      go_wp2_with fail
      go_meet
      exact ⟨rfl, rfl⟩
  case rest =>
    obtain ⟨rfl, rfl⟩ := hcut
    go_wp2_with fail
    rw [show ((n : Int) + 1) = ((n + 1 : Nat) : Int) by omega]
    refine (pool11 (n + 1) _ (by omega)).mono ?_
    rintro e w1 ⟨rfl, hp1, hb1⟩
    have hbp1 : v1.heap.size + (n + 1) < w1.heap.size := by have := hp1.lt (i := n) (by omega); omega
    go_upto_if 58 with fail
    go_cut [9, 10] (fun s9 s10 wx => ∃ om, s9 = .map om ∧ MapIs wx om (psTo (v1.heap.size + 1) 0 (fun _ => 0) (n + 1)) ∧ Below w1.heap.size w1 wx)
    case first =>
      by_cases hn0 : n = 0
      · subst hn0
        go_wp2_with fail
        go_meet
        exact ⟨none, rfl, .inl ⟨rfl, rfl⟩, Below.refl _ _⟩
      · have z2 : (0 : Int) < (n : Int) := by omega
        have hmm := @run_makeMap Try.prog
        go_wp2_with fail
        clear hmm
        go_loopg [10] n (fun g i wr => ∃ (k : Nat) (es : Array MapEntry) (clock : Nat), 1 ≤ k ∧ k ≤ n + 1 ∧ g = n + 1 - k ∧ i = .int .i64 k ∧ wr.heap[w1.heap.size]? = some (.map es clock) ∧ Hid (Reads es.toList (psTo (v1.heap.size + 1) 0 (fun _ => 0) k)) ∧ Below w1.heap.size w1 wr)
        case atStart => exact ⟨1, #[], 0, by omega, by omega, by omega, rfl, Deep.blk_alloc_new _ _, rfl, (Below.refl _ _).alloc (Nat.le_refl _) _⟩
        case round =>
          obtain ⟨k, es, clock, hk1, hk, rfl, rfl, hh, hr, hbel⟩ := hrel
          have hp2 := hp1.keep (by omega) hbel hbp1
          have hsz1 : w1.heap.size < wr.heap.size := (Array.getElem?_eq_some_iff.1 hh).1
          by_cases hlt : k ≤ n
          · have hkz : (k : Int) ≤ (n : Int) := by omega
            have hkz1 : (k : Int) < (n : Int) + 1 := by omega
            have pk := hp2.row.cell (i := k) (by omega)
            have ho : ∀ p ∈ psTo (v1.heap.size + 1) 0 (fun _ => 0) k, OwnB wr p.1 := fun p hpm => by
              obtain ⟨i, h2, h3⟩ := mem_psTo hpm
              rw [h3]
              exact (hp2.own i (by omega)).b
            have hmu := run_mapUpdate_own (W := wr) hh hr.out 0 (b := v1.heap.size + 1 + k) (hp2.own k (by omega)).b ho (by rw [lkp_psTo, if_neg (by omega)])
            have HR : Hid (Reads (es.push { key := .pointer (some ⟨v1.heap.size + 1 + k, 0, none⟩), val := .int .i64 0, born := clock }).toList (psTo (v1.heap.size + 1) 0 (fun _ => 0) (k + 1))) := by
              show Reads _ _
              unfold psTo
              rw [if_neg (by omega)]
              exact reads_push hr.out _ _ _
            have HA : Hid ((setB wr w1.heap.size (.map (es.push { key := .pointer (some ⟨v1.heap.size + 1 + k, 0, none⟩), val := .int .i64 0, born := clock }) (clock + 1))).heap[w1.heap.size]? = some (.map (es.push { key := .pointer (some ⟨v1.heap.size + 1 + k, 0, none⟩), val := .int .i64 0, born := clock }) (clock + 1))) := setB_at hsz1 _
            have HBL : Hid (Below w1.heap.size w1 (setB wr w1.heap.size (.map (es.push { key := .pointer (some ⟨v1.heap.size + 1 + k, 0, none⟩), val := .int .i64 0, born := clock }) (clock + 1)))) := below_setB hbel (Nat.le_refl _) _
            clear ho hr hp2
            go_wp2_with fail
            go_roundg (n + 1 - (k + 1))
            case measure => omega
            case rel => exact ⟨k + 1, _, _, by omega, by omega, rfl, by go_num, HA.out, HR.out, HBL.out⟩
          · have hkz : decide ((k : Int) ≤ (n : Int)) = false := decide_eq_false (by omega)
            have hrn : Hid (Reads es.toList (psTo (v1.heap.size + 1) 0 (fun _ => 0) (n + 1))) := by
              have e : k = n + 1 := by omega
              rw [← e]; exact hr
            clear hr
            go_wp2_with fail
            go_meet
            exact ⟨some w1.heap.size, rfl, .inr ⟨_, es, clock, rfl, hh, hrn.out⟩, hbel⟩
    case rest =>
      obtain ⟨wm, rfl⟩ : ∃ wm, wm = wc := ⟨wc, rfl⟩
      obtain ⟨om, rfl, hm, hbm⟩ := hcut
      have HM : Hid (MapIs wm om (psTo (v1.heap.size + 1) 0 (fun _ => 0) (n + 1))) := hm
      have hpm := hp1.keep (by omega) hbm hbp1
      clear hm
      go_upto_region 16 with fail
      go_cut [11] (fun s11 wx => ∃ bs, s11 = .pointer (some ⟨bs, 0, none⟩) ∧ LockAt wx bs (s ++ ⟨#[39]⟩) (some ⟨v1.heap.size + 1, 0, none⟩) 0 om ∧ Below wm.heap.size wm wx)
      case first =>
        have p0 : wm.drew.cell? ⟨v1.heap.size, 0, none⟩ = some (.pointer (some ⟨v1.heap.size + 1, 0, none⟩)) := by simpa using hpm.row.cell (i := 0) (by omega)
        have L0 : v1.heap.size < wm.drew.heap.size := by have := hbm.size; show _ < wm.heap.size; omega
        have hssz : s.size + 1 ≤ maxLen := by unfold maxLen; omega
        have nz : (0 : Int) < (n : Int) + 1 := by omega
        clear hp1 hbm hpm HM
        go_region_with (first
          | (go_at_call 8; refine (name8 _ _).mono ?_; rintro e w2 ⟨rfl, hb2⟩; have p2 := (hb2.cell (p := ⟨v1.heap.size, 0, none⟩) L0).trans p0)
          | (go_at_call 13; refine (newlock13 _ _ _ _ _).mono ?_; rintro e w3 ⟨bs, rfl, hbs, hl3, hb3⟩))
        all_goals (go_wp2_with fail; go_meet; exact ⟨bs, rfl, hl3, ((below_drew wm).trans hb2).trans (hb3.mono hb2.size)⟩)
      case rest =>
        obtain ⟨wS, rfl⟩ : ∃ wS, wS = wc := ⟨wc, rfl⟩
        obtain ⟨bs, rfl, hlS, hbS⟩ := hcut
        have hb1S : Below w1.heap.size w1 wS := hbm.trans (hbS.mono hbm.size)
        have hpS := hp1.keep (by omega) hb1S hbp1
        have HS : Hid (Tab wS bs v1.heap.size n (inModes (n + 1) (fun _ => 0)) (s ++ ⟨#[39]⟩)) := ⟨some (v1.heap.size + 1), 0, om, _, hlS, shared_tabV (HM.out.keep hbS)⟩
        have hbp : v1.heap.size + (n + 1) < wS.heap.size := Nat.lt_of_lt_of_le hbp1 hb1S.size
        have hbv : Below v1.heap.size v1 wS := hb1.trans (hb1S.mono hb1.size)
        clear hpm hlS HM hbm hbS hb1 hp1 hb1S hbp1
        go_wp2_with fail
        refine (table12_any v1.heap.size n fi a cap md _ hpS (hs0.out.keep hbv hbv.size) hg.out hn).mono ?_
        rintro e w2 ⟨f, fm, om2, ps, rfl, ht2, hb2⟩
        go_wp2_with fail
        refine (name8 _ _).mono ?_
        rintro e w3 ⟨rfl, hb3⟩
        go_wp2_with fail
        refine (newlock13 _ (oaddr f) fm om2 _).mono ?_
        rintro e w4 ⟨bl, rfl, hbl, hl4, hb4⟩
        have hB : Below wS.heap.size wS w4 := (hb2.trans (hb3.mono hb2.size)).trans (hb4.mono (Nat.le_trans hb2.size hb3.size))
        have hp4 := hpS.keep (by omega) hB hbp
        have ST : St v1 w4 v1.heap.size n bs bl md s (s ++ ⟨#[39]⟩) 0 :=
          ⟨hp4.row, fun i hi => absurd hi (by omega), fun i _ hi => hp4.own i (by omega), HS.out.keep hB, ⟨f, fm, om2, ps, hl4, (ht2.keep hb3).keep hb4⟩, hbv.trans (hB.mono hbv.size)⟩
        clear hp4 hB hl4 hb4 hb3 hb2 ht2 hbl hpS hbp HS hbv
        go_wp2_with fail
        go_loopg [16] (n + 1) (fun g s16 wr => ∃ k : Nat, k ≤ n + 1 ∧ g = n + 1 - k ∧ s16 = .int .i64 k ∧ St v1 wr v1.heap.size n bs bl md s (s ++ ⟨#[39]⟩) k)
        case atStart => exact ⟨0, Nat.zero_le _, rfl, rfl, ST⟩
        case round =>
          clear ST
          obtain ⟨k, hk, rfl, rfl, ST⟩ := hrel
          by_cases hlt : k ≤ n
          · have hkz : (k : Int) ≤ (n : Int) := by omega
            have hkz1 : (k : Int) < (n : Int) + 1 := by omega
            have pk := ST.row.cell (i := k) (by omega)
            go_wp2_with fail
            refine (hold16 0 (v1.heap.size + 1 + k) bs none 0 0 [] 0 _ (ST.todo k (Nat.le_refl _) hlt) (World.ownsRow_nil _ _ _ _) (by omega) (Nat.zero_le _)).mono ?_
            rintro e w5 ⟨rfl, g, cap', ho5, hr5, hloc, hm5⟩
            have hg5 : Hid (wr.heap.size ≤ g) := by
              rcases hloc with h | h
              · cases h
              · exact h
            have hm5 : Moved wr w5 (v1.heap.size + 1 + k) none := hm5
            clear pk hloc
            by_cases hkn : k < n
            · have hknz : (k : Int) < (n : Int) := by omega
              have hbv5 : Below v1.heap.size v1 w5 := below_moved ST.bel hm5 (by omega) (Nat.le_of_lt ST.lt)
              have hrow5 := ST.row.of_block (hm5.block _ ST.lt (by omega) (fun e => by cases e))
              have pk5 := hrow5.cell (i := k) (by omega)
              obtain ⟨b, off, rfl, hb, hc⟩ := hs0.out.keep hbv5 hbv5.size (by omega)
              have mk5 := hc k hkn
              have ho5d : OwnAt w5.drew (v1.heap.size + 1 + k) (.slice (some ⟨g, 0, none⟩) (0 + 1) cap') := ho5
              have hr5d : w5.drew.ownsRow 0 55 2 (.slice (some ⟨g, 0, none⟩) (0 + 1) cap') (0 + 1) ([] ++ [.pointer (some ⟨bs, 0, none⟩), .int .i64 0]) := hr5
              have STH : Hid (St v1 wr v1.heap.size n bs bl md s (s ++ ⟨#[39]⟩) k) := ST
              have HM5 : Hid (Moved wr w5 (v1.heap.size + 1 + k) none) := hm5
              clear hc hbv5 hrow5 ST hm5 ho5 hr5
              go_wp2_with fail
              go_region_with (go_at_call 16; refine (hold16 0 (v1.heap.size + 1 + k) bl (some ⟨g, 0, none⟩) (0 + 1) cap' _ (md k) _ ho5d hr5d (by omega) (Nat.zero_le _)).mono ?_; rintro e w6 ⟨rfl, g6, cap6, ho6, hr6, _, hm6⟩)
              all_goals (
                go_wp2_with fail
                go_roundg (n + 1 - (k + 1))
                case measure => omega
                case rel => exact ⟨k + 1, by omega, rfl, by go_num, STH.out.step hlt (HM5.out.drew.two hm6 hg5.out) (held2 hkn ho6 hr6)⟩)
            · have hknz : decide ((k : Int) < (n : Int)) = false := decide_eq_false (by omega)
              go_wp2_with fail
              go_roundg (n + 1 - (k + 1))
              case measure => omega
              case rel => exact ⟨k + 1, by omega, rfl, by go_num, ST.step hlt hm5 (held1 hkn ho5 hr5)⟩
          · have hkz : decide ((k : Int) ≤ (n : Int)) = false := decide_eq_false (by omega)
            obtain rfl : k = n + 1 := by omega
            go_wp2_with fail
            refine (name8 _ _).mono ?_
            rintro e w7 ⟨rfl, hb7⟩
            have ST := ST.later hb7
            clear hb7
            go_wp2_with fail
            have hb8 : Below w7.heap.size w7 (w7.alloc (.cells #[.string s, .string ByteArray.empty, .int .u8 0] 25)) := (Below.refl _ _).alloc (Nat.le_refl _) _
            have ST := ST.later hb8
            have hr8 : ResAt (w7.alloc (.cells #[.string s, .string ByteArray.empty, .int .u8 0] 25)) w7.heap.size s := ⟨by simp, by simp, by simp, by simp⟩
            clear hb8
            generalize w7.alloc (.cells #[.string s, .string ByteArray.empty, .int .u8 0] 25) = w8 at *
            generalize w7.heap.size = br at *
            have HQ : Hid (s ++ ⟨#[39]⟩ ≠ s) := name_ne s
            generalize s ++ ⟨#[39]⟩ = q at *
            refine (name8 _ _).mono ?_
            rintro e w9 ⟨rfl, hb9⟩
            have ST := ST.later hb9
            have hr9 := hr8.keep hb9 hr8.lt
            clear hb9 hr8
            go_wp2_with fail
            have hb10 : Below w9.heap.size w9 (w9.alloc (.cells #[.string q, .string ByteArray.empty, .int .u8 0] 25)) := (Below.refl _ _).alloc (Nat.le_refl _) _
            have ST := ST.later hb10
            have hr10 := hr9.keep hb10 hr9.lt
            have hq10 : ResAt (w9.alloc (.cells #[.string q, .string ByteArray.empty, .int .u8 0] 25)) w9.heap.size q := ⟨by simp, by simp, by simp, by simp⟩
            clear hb10 hr9
            generalize w9.alloc (.cells #[.string q, .string ByteArray.empty, .int .u8 0] 25) = w10 at *
            generalize w9.heap.size = bq at *
            go_loopg [19] (n + 1) (fun g s19 wr => ∃ k : Nat, k ≤ n + 1 ∧ g = n + 1 - k ∧ s19 = .int .i64 k ∧ St v1 wr v1.heap.size n bs bl md s q (n + 1) ∧ ResAt wr br s ∧ ResAt wr bq q)
            case atStart => exact ⟨0, Nat.zero_le _, rfl, rfl, ST, hr10, hq10⟩
            case round =>
              clear ST hr10 hq10 hlt hk hkz
              obtain ⟨k, hk, rfl, rfl, ST, hR, hQ⟩ := hrel
              by_cases hlt : k ≤ n
              · have hkz : (k : Int) ≤ (n : Int) := by omega
                have hkz1 : (k : Int) < (n : Int) + 1 := by omega
                have pk := ST.row.cell (i := k) (by omega)
                go_wp2_with fail
                refine (held_tab ST.tb ST.own hlt).mono ?_
                rintro e w5 ⟨rfl, rfl⟩
                go_wp2_with fail
                refine wp_region_quiet_in (fun W => Below w5.heap.size w5 W) (by kernel_rfl) (by kernel_rfl) (below_drew w5) ?_
                intro hne0
                have kp : ∀ W : Among (fun W => Below w5.heap.size w5 W), W.val.cell? ⟨v1.heap.size, k, none⟩ = some (.pointer (some ⟨v1.heap.size + 1 + k, 0, none⟩)) := fun W => (W.ok.cell (p := ⟨v1.heap.size, k, none⟩) ST.lt).trans pk
                have k0 : ∀ W : Among (fun W => Below w5.heap.size w5 W), W.val.cell? ⟨br, 0, none⟩ = some (.string s) := fun W => (W.ok.cell (p := ⟨br, 0, none⟩) hR.lt).trans hR.c0
                have k1 : ∀ W : Among (fun W => Below w5.heap.size w5 W), W.val.cell? ⟨br, 1, none⟩ = some (.string ByteArray.empty) := fun W => (W.ok.cell (p := ⟨br, 1, none⟩) hR.lt).trans hR.c1
                have k2 : ∀ W : Among (fun W => Below w5.heap.size w5 W), W.val.cell? ⟨br, 2, none⟩ = some (.int .u8 0) := fun W => (W.ok.cell (p := ⟨br, 2, none⟩) hR.lt).trans hR.c2
                have kc : ∀ W : Among (fun W => Below w5.heap.size w5 W), _ := fun W => Calls.in_below (x := W) (find_r (ST.later W.ok) HQ.out hlt)
                repeat (go_big_quiet_step ((go_at_call 17; exact kc _)))
                refine wpQuiet_nil ?_
                rintro w6 ⟨⟨_, hw6⟩, rfl⟩
                have ST := ST.later hw6
                have hR := hR.keep hw6 hR.lt
                have hQ := hQ.keep hw6 hQ.lt
                clear kp k0 k1 k2 kc hne0 pk hw6
                have pk := ST.row.cell (i := k) (by omega)
                go_wp2_with fail
                refine (held_tab ST.sh ST.own hlt).mono ?_
                rintro e w7 ⟨rfl, rfl⟩
                have ha : inModes (n + 1) (fun _ => (0 : Int)) k = (0, true) := by unfold inModes; rw [if_pos (by omega)]
                rw [ha]
                clear ha
                go_wp2_with fail
                refine wp_region_quiet_in (fun W => Below w7.heap.size w7 W) (by kernel_rfl) (by kernel_rfl) (below_drew w7) ?_
                intro hne0
                have kp : ∀ W : Among (fun W => Below w7.heap.size w7 W), W.val.cell? ⟨v1.heap.size, k, none⟩ = some (.pointer (some ⟨v1.heap.size + 1 + k, 0, none⟩)) := fun W => (W.ok.cell (p := ⟨v1.heap.size, k, none⟩) ST.lt).trans pk
                have k0 : ∀ W : Among (fun W => Below w7.heap.size w7 W), W.val.cell? ⟨bq, 0, none⟩ = some (.string q) := fun W => (W.ok.cell (p := ⟨bq, 0, none⟩) hQ.lt).trans hQ.c0
                have k1 : ∀ W : Among (fun W => Below w7.heap.size w7 W), W.val.cell? ⟨bq, 1, none⟩ = some (.string ByteArray.empty) := fun W => (W.ok.cell (p := ⟨bq, 1, none⟩) hQ.lt).trans hQ.c1
                have k2 : ∀ W : Among (fun W => Below w7.heap.size w7 W), W.val.cell? ⟨bq, 2, none⟩ = some (.int .u8 0) := fun W => (W.ok.cell (p := ⟨bq, 2, none⟩) hQ.lt).trans hQ.c2
                have kc : ∀ W : Among (fun W => Below w7.heap.size w7 W), _ := fun W => Calls.in_below (x := W) (find_s (ST.later W.ok) HQ.out hlt)
                repeat (go_big_quiet_step ((go_at_call 17; exact kc _)))
                refine wpQuiet_nil ?_
                rintro w8 ⟨⟨_, hw8⟩, rfl⟩
                have ST := ST.later hw8
                have hR := hR.keep hw8 hR.lt
                have hQ := hQ.keep hw8 hQ.lt
                clear kp k0 k1 k2 kc hne0 pk hw8
                by_cases hkn : k < n
                · have hknz : (k : Int) < (n : Int) := by omega
                  have ha : inModes n md k = (md k, true) := by unfold inModes; rw [if_pos hkn]
                  obtain ⟨b, off, rfl, hb, hc⟩ := hs0.out.keep ST.bel (Nat.le_of_lt ST.lt) (by omega)
                  have mk := hc k hkn
                  rw [ha, show findAt n k = 1 by unfold findAt; rw [if_pos hkn]]
                  clear ha hc
                  go_wp2_with fail
                  go_roundg (n + 1 - (k + 1))
                  case measure => omega
                  case rel => exact ⟨k + 1, by omega, rfl, by go_num, ST, hR, hQ⟩
                · have hknz : decide ((k : Int) < (n : Int)) = false := decide_eq_false (by omega)
                  have ha : inModes n md k = (0, false) := by unfold inModes; rw [if_neg hkn]
                  rw [ha, show findAt n k = -1 by unfold findAt; rw [if_neg hkn]]
                  clear ha
                  go_wp2_with fail
                  go_roundg (n + 1 - (k + 1))
                  case measure => omega
                  case rel => exact ⟨k + 1, by omega, rfl, by go_num, ST, hR, hQ⟩
              · have hkz : decide ((k : Int) ≤ (n : Int)) = false := decide_eq_false (by omega)
                go_wp2_with fail
                go_ret
                exact ⟨rfl, ST.bel⟩
end Go.Proofs.Qxb6603549a
