/-
  PLAIN LAWS ON A RADIX SORT, no Go in sight: one stable pass by a byte; the passes of one field; the three fields; two orderings of one bag are one list.
-/
import Derived.Test.Qxb6602564aPlain
namespace Go.Proofs.Qxb6602564a.Pl

/-! ### One stable pass: the buckets, one behind the other -/

/-- The elements whose byte is below m, by their byte, each byte's in the order of the list. -/
def buckets {α : Type} (b : α → Nat) (L : List α) : Nat → List α
  | 0 => []
  | m + 1 => buckets b L m ++ L.filter (fun x => b x == m)

/-- How many of the list have a byte below v: where byte v's bucket starts. -/
def startOf {α : Type} (b : α → Nat) (L : List α) (v : Nat) : Nat := (L.filter (fun x => decide (b x < v))).length

/-- How many of the list have byte v. -/
def cntOf {α : Type} (b : α → Nat) (L : List α) (v : Nat) : Nat := (L.filter (fun x => b x == v)).length

theorem filter_both {α : Type} (p q r : α → Bool) (L : List α) (hr : ∀ x, r x = (p x || q x)) (hd : ∀ x, p x = true → q x = false) : (L.filter p ++ L.filter q).Perm (L.filter r) := by
  induction L with
  | nil => simp
  | cons x L ih =>
    rw [List.filter_cons, List.filter_cons, List.filter_cons, hr x]
    cases hp : p x with
    | true =>
      rw [hd x hp]
      simpa using ih
    | false =>
      cases hq : q x with
      | true =>
        simp only [Bool.false_or, if_true, Bool.false_eq_true, if_false]
        exact List.perm_middle.trans (ih.cons x)
      | false => simpa using ih

theorem buckets_perm {α : Type} (b : α → Nat) (L : List α) (m : Nat) : (buckets b L m).Perm (L.filter (fun x => decide (b x < m))) := by
  induction m with
  | zero => simp [buckets]
  | succ m ih =>
    unfold buckets
    refine (ih.append_right _).trans (filter_both _ _ _ L (fun x => ?_) (fun x h => ?_))
    · simp only [Nat.lt_succ_iff, Nat.le_iff_lt_or_eq, Bool.decide_or]
      congr 1
    · simp at h ⊢
      omega

theorem buckets_perm_all {α : Type} {b : α → Nat} {L : List α} {m : Nat} (h : ∀ x ∈ L, b x < m) : (buckets b L m).Perm L := by
  have := buckets_perm b L m
  rwa [List.filter_eq_self.2 (fun x hx => by simpa using h x hx)] at this

theorem buckets_length {α : Type} (b : α → Nat) (L : List α) (m : Nat) : (buckets b L m).length = startOf b L m := (buckets_perm b L m).length_eq

theorem startOf_succ {α : Type} (b : α → Nat) (L : List α) (m : Nat) : startOf b L (m + 1) = startOf b L m + cntOf b L m := by
  rw [← buckets_length, ← buckets_length, buckets, List.length_append]
  rfl

theorem startOf_zero {α : Type} (b : α → Nat) (L : List α) : startOf b L 0 = 0 := by simp [startOf]

theorem startOf_mono {α : Type} (b : α → Nat) (L : List α) {u v : Nat} (h : u ≤ v) : startOf b L u ≤ startOf b L v := by
  induction v with
  | zero => rw [show u = 0 by omega]; exact Nat.le_refl _
  | succ v ih =>
    by_cases e : u = v + 1
    · rw [e]; exact Nat.le_refl _
    · rw [startOf_succ]; have := ih (by omega); omega

theorem startOf_le {α : Type} (b : α → Nat) (L : List α) (v : Nat) : startOf b L v ≤ L.length := List.length_filter_le _ _

theorem mem_buckets {α : Type} {b : α → Nat} {L : List α} {m : Nat} {x : α} (h : x ∈ buckets b L m) : b x < m := by
  have := (buckets_perm b L m).mem_iff.1 h
  simpa using (List.mem_filter.1 this).2

theorem buckets_pairwise {α : Type} {R : α → α → Prop} (b : α → Nat) {L : List α} (h : L.Pairwise R) (m : Nat) : (buckets b L m).Pairwise (fun x y => b x < b y ∨ (b x = b y ∧ R x y)) := by
  induction m with
  | zero => simp [buckets]
  | succ m ih =>
    unfold buckets
    rw [List.pairwise_append]
    refine ⟨ih, ?_, fun x hx y hy => ?_⟩
    · have h1 : (L.filter (fun x => b x == m)).Pairwise R := h.filter _
      refine List.Pairwise.imp_of_mem ?_ h1
      intro x y hx hy hr
      have e1 := (List.mem_filter.1 hx).2
      have e2 := (List.mem_filter.1 hy).2
      simp only [beq_iff_eq] at e1 e2
      exact .inr ⟨by omega, hr⟩
    · have e1 := mem_buckets hx
      have e2 := (List.mem_filter.1 hy).2
      simp only [beq_iff_eq] at e2
      exact .inl (by omega)

/-- Where element i of the list goes. -/
def posOf {α : Type} (b : α → Nat) (L : List α) (i : Nat) (x : α) : Nat := startOf b L (b x) + cntOf b (L.take i) (b x)

theorem cntOf_take_succ {α : Type} (b : α → Nat) (L : List α) (v i : Nat) (h : i < L.length) : cntOf b (L.take (i + 1)) v = cntOf b (L.take i) v + if b L[i] = v then 1 else 0 := by
  unfold cntOf
  rw [List.take_succ_eq_append_getElem h, List.filter_append, List.length_append]
  by_cases e : b L[i] = v <;> simp [e]

theorem cntOf_take_mono {α : Type} (b : α → Nat) (L : List α) (v : Nat) {i j : Nat} (h : i ≤ j) (hj : j ≤ L.length) : cntOf b (L.take i) v ≤ cntOf b (L.take j) v := by
  induction j with
  | zero => rw [show i = 0 by omega]; exact Nat.le_refl _
  | succ j ih =>
    by_cases e : i = j + 1
    · rw [e]; exact Nat.le_refl _
    · have := ih (by omega) (by omega)
      rw [cntOf_take_succ b L v j (by omega)]
      omega

theorem cntOf_take_lt {α : Type} (b : α → Nat) (L : List α) {i j : Nat} (h : i < j) (hj : j ≤ L.length) : cntOf b (L.take i) (b L[i]) < cntOf b (L.take j) (b L[i]) := by
  have h1 := cntOf_take_succ b L (b L[i]) i (by omega)
  have h2 := cntOf_take_mono b L (b L[i]) (show i + 1 ≤ j from h) hj
  simp only [if_true] at h1
  omega

theorem posOf_lt {α : Type} (b : α → Nat) (L : List α) {i : Nat} (h : i < L.length) : posOf b L i L[i] < startOf b L (b L[i] + 1) := by
  unfold posOf
  rw [startOf_succ]
  have := cntOf_take_lt b L h (Nat.le_refl _)
  rw [List.take_length] at this
  omega

/-- No two elements go to one place. -/
theorem posOf_ne {α : Type} (b : α → Nat) (L : List α) {i j : Nat} (hi : i < L.length) (hj : j < L.length) (h : i < j) : posOf b L i L[i] ≠ posOf b L j L[j] := by
  have l1 := posOf_lt b L hi
  have l2 := posOf_lt b L hj
  rcases Nat.lt_trichotomy (b L[i]) (b L[j]) with e | e | e
  · have := startOf_mono b L (show b L[i] + 1 ≤ b L[j] from e)
    have : startOf b L (b L[j]) ≤ posOf b L j L[j] := by unfold posOf; omega
    omega
  · have := cntOf_take_lt b L h (by omega)
    unfold posOf
    rw [← e]
    omega
  · have := startOf_mono b L (show b L[j] + 1 ≤ b L[i] from e)
    have : startOf b L (b L[i]) ≤ posOf b L i L[i] := by unfold posOf; omega
    omega

theorem filter_at {α : Type} (p : α → Bool) (L : List α) {r : Nat} (h : r < (L.filter p).length) : ∃ i, ∃ hi : i < L.length, p L[i] = true ∧ ((L.take i).filter p).length = r ∧ (L.filter p)[r]? = some L[i] := by
  induction L generalizing r with
  | nil => simp at h
  | cons x L ih =>
    cases hp : p x with
    | true =>
      rw [List.filter_cons, hp] at h ⊢
      simp only [if_true] at h ⊢
      cases r with
      | zero => exact ⟨0, by simp, by simpa using hp, by simp, by simp⟩
      | succ r =>
        obtain ⟨i, hi, h1, h2, h3⟩ := ih (r := r) (by simpa using h)
        exact ⟨i + 1, by simpa using hi, by simpa using h1, by simp [hp, h2], by simpa using h3⟩
    | false =>
      rw [List.filter_cons, hp] at h ⊢
      simp only [Bool.false_eq_true, if_false] at h ⊢
      obtain ⟨i, hi, h1, h2, h3⟩ := ih h
      exact ⟨i + 1, by simpa using hi, by simpa using h1, by simp [hp, h2], by simpa using h3⟩

/-- Every place ahead of bucket m is some element's. -/
theorem buckets_at {α : Type} (b : α → Nat) (L : List α) (m : Nat) {p : Nat} (h : p < (buckets b L m).length) : ∃ i, ∃ hi : i < L.length, posOf b L i L[i] = p ∧ (buckets b L m)[p]? = some L[i] := by
  induction m with
  | zero => simp [buckets] at h
  | succ m ih =>
    unfold buckets at h ⊢
    by_cases hlt : p < (buckets b L m).length
    · obtain ⟨i, hi, h1, h2⟩ := ih hlt
      exact ⟨i, hi, h1, by rw [List.getElem?_append_left hlt]; exact h2⟩
    · rw [List.length_append] at h
      obtain ⟨i, hi, h1, h2, h3⟩ := filter_at (fun x => b x == m) L (r := p - (buckets b L m).length) (by omega)
      have e : b L[i] = m := by simpa using h1
      refine ⟨i, hi, ?_, ?_⟩
      · unfold posOf cntOf
        rw [e, h2, ← buckets_length]
        omega
      · rw [List.getElem?_append_right (by omega)]
        exact h3

/-- THE PASS: whatever holds each element at its place is the buckets' list. -/
theorem pass_done {α : Type} (b : α → Nat) (L : List α) (T : Nat → α) (n m : Nat) (hn : L.length = n) (hb : ∀ x ∈ L, b x < m) (h : ∀ i, ∀ hi : i < L.length, T (posOf b L i L[i]) = L[i]) : seg T 0 n = buckets b L m := by
  have hl : (buckets b L m).length = n := by rw [(buckets_perm_all hb).length_eq, hn]
  refine List.ext_getElem? fun p => ?_
  by_cases hp : p < n
  · obtain ⟨i, hi, h1, h2⟩ := buckets_at b L m (p := p) (by omega)
    rw [h2, seg_getOpt T n hp, ← h1, h i hi]
  · rw [List.getElem?_eq_none (by rw [seg_length]; omega), List.getElem?_eq_none (by omega)]

/-! ### The same, said of a function's first n values -/

theorem seg_take {α : Type} (F : Nat → α) {i n : Nat} (h : i ≤ n) : (seg F 0 n).take i = seg F 0 i := by
  rw [seg_split F (Nat.zero_le i) h]
  exact List.take_left' (by rw [seg_length]; omega)

def posF {α : Type} (b : α → Nat) (F : Nat → α) (n i : Nat) : Nat := startOf b (seg F 0 n) (b (F i)) + cntOf b (seg F 0 i) (b (F i))

theorem posF_eq {α : Type} (b : α → Nat) (F : Nat → α) {n i : Nat} (h : i < n) (h' : i < (seg F 0 n).length) : posOf b (seg F 0 n) i (seg F 0 n)[i] = posF b F n i := by
  unfold posOf posF
  rw [seg_get, seg_take F (by omega), Nat.zero_add]

theorem posF_lt {α : Type} (b : α → Nat) (F : Nat → α) {n i : Nat} (h : i < n) : posF b F n i < n := by
  have h' : i < (seg F 0 n).length := by rw [seg_length]; omega
  have h1 := posOf_lt b (seg F 0 n) h'
  have h2 := startOf_le b (seg F 0 n) (b (seg F 0 n)[i] + 1)
  rw [posF_eq b F h h'] at h1
  rw [seg_length] at h2
  omega

theorem posF_ne {α : Type} (b : α → Nat) (F : Nat → α) {n i j : Nat} (hj : j < n) (h : i < j) : posF b F n i ≠ posF b F n j := by
  have hi' : i < (seg F 0 n).length := by rw [seg_length]; omega
  have hj' : j < (seg F 0 n).length := by rw [seg_length]; omega
  have := posOf_ne b (seg F 0 n) hi' hj' h
  rwa [posF_eq b F (by omega) hi', posF_eq b F hj hj'] at this

theorem passF_done {α : Type} (b : α → Nat) (F T : Nat → α) (n m : Nat) (hb : ∀ x ∈ seg F 0 n, b x < m) (h : ∀ i, i < n → T (posF b F n i) = F i) : seg T 0 n = buckets b (seg F 0 n) m := by
  refine pass_done b (seg F 0 n) T n m (by rw [seg_length]; omega) hb fun i hi => ?_
  have hin : i < n := by rw [seg_length] at hi; omega
  rw [posF_eq b F hin hi, h i hin, seg_get, Nat.zero_add]

/-! ### Keys -/

structure Key where
  t : Int
  h : Int
  n : Int

theorem Key.ext' {x y : Key} (h1 : x.t = y.t) (h2 : x.h = y.h) (h3 : x.n = y.n) : x = y := by
  cases x; cases y; simp_all

/-- Field f of a key as the sort reads it. -/
def fld (f : Nat) (x : Key) : Int := if f = 0 then x.n else if f = 1 then - x.h else x.t

/-- In order by the fields below f, the greatest first. -/
def lexLe : Nat → Key → Key → Prop
  | 0, _, _ => True
  | f + 1, x, y => fld f x < fld f y ∨ (fld f x = fld f y ∧ lexLe f x y)

theorem lex3_antisymm {x y : Key} (h1 : lexLe 3 x y) (h2 : lexLe 3 y x) : x = y := by
  simp only [lexLe, fld] at h1 h2
  simp at h1 h2
  refine Key.ext' ?_ ?_ ?_ <;> omega

theorem lexLe_trans (f : Nat) {x y z : Key} (h1 : lexLe f x y) (h2 : lexLe f y z) : lexLe f x z := by
  induction f with
  | zero => trivial
  | succ f ih =>
    simp only [lexLe] at *
    rcases h1 with h1 | ⟨h1, g1⟩ <;> rcases h2 with h2 | ⟨h2, g2⟩
    · exact .inl (by omega)
    · exact .inl (by omega)
    · exact .inl (by omega)
    · exact .inr ⟨by omega, ih g1 g2⟩

/-! ### The passes of one field -/

/-- How far a key's field lies above the least. -/
def above (f : Nat) (lo : Int) (x : Key) : Nat := (fld f x - lo).toNat

def byteOf (f : Nat) (lo : Int) (s : Nat) (x : Key) : Nat := above f lo x / 2 ^ s % 256

/-- In order by what lies below bit s of the field, then by the fields below it. -/
def Upto (f : Nat) (lo : Int) (s : Nat) (x y : Key) : Prop := above f lo x % 2 ^ s < above f lo y % 2 ^ s ∨ (above f lo x % 2 ^ s = above f lo y % 2 ^ s ∧ lexLe f x y)

theorem pw_mono {α : Type} {R S : α → α → Prop} (h : ∀ x y, R x y → S x y) {l : List α} (hl : l.Pairwise R) : l.Pairwise S := by
  induction l with
  | nil => exact List.Pairwise.nil
  | cons a l ih =>
    have h2 := List.pairwise_cons.1 hl
    exact List.pairwise_cons.2 ⟨fun b hb => h a b (h2.1 b hb), ih h2.2⟩

theorem upto_start (f : Nat) (lo : Int) {x y : Key} (h : lexLe f x y) : Upto f lo 0 x y := .inr ⟨by simp [Nat.mod_one], h⟩

theorem upto_step (f : Nat) (lo : Int) (s : Nat) {x y : Key} (h : byteOf f lo s x < byteOf f lo s y ∨ (byteOf f lo s x = byteOf f lo s y ∧ Upto f lo s x y)) : Upto f lo (s + 8) x y := by
  unfold Upto byteOf at *
  generalize above f lo x = a at *
  generalize above f lo y = c at *
  have e : (2 : Nat) ^ (s + 8) = 2 ^ s * 256 := by rw [Nat.pow_add]
  have h0 : 0 < 2 ^ s := Nat.pow_pos (by omega)
  rw [e, Nat.mod_mul, Nat.mod_mul]
  have m1 := Nat.mod_lt a h0
  have m2 := Nat.mod_lt c h0
  rcases h with h | ⟨h, g⟩
  · left
    have := Nat.mul_le_mul_left (2 ^ s) (show a / 2 ^ s % 256 + 1 ≤ c / 2 ^ s % 256 from h)
    rw [Nat.mul_add] at this
    omega
  · rw [h]
    rcases g with g | ⟨g, l⟩
    · exact .inl (by omega)
    · exact .inr ⟨by omega, l⟩

theorem upto_end (f : Nat) (lo : Int) (s : Nat) {x y : Key} (hx : lo ≤ fld f x) (hy : lo ≤ fld f y) (sx : above f lo x < 2 ^ s) (sy : above f lo y < 2 ^ s) (h : Upto f lo s x y) : lexLe (f + 1) x y := by
  unfold Upto at h
  rw [Nat.mod_eq_of_lt sx, Nat.mod_eq_of_lt sy] at h
  unfold above at h
  rcases h with h | ⟨h, l⟩
  · exact .inl (by omega)
  · exact .inr ⟨by omega, l⟩

/-! ### Two orderings of one bag are one list -/

theorem sorted_unique {α : Type} {R : α → α → Prop} (anti : ∀ x y, R x y → R y x → x = y) : ∀ {l m : List α}, l.Perm m → l.Pairwise R → m.Pairwise R → l = m
  | [], m, hp, _, _ => by rw [List.nil_perm.1 hp]
  | x :: l, [], hp, _, _ => absurd hp.length_eq (by simp)
  | x :: l, y :: m, hp, hl, hm => by
    have hxy : x = y := by
      by_cases e : x = y
      · exact e
      · have h1 : x ∈ m := by
          have := hp.mem_iff.1 (List.mem_cons_self (a := x) (l := l))
          rcases List.mem_cons.1 this with h | h
          · exact absurd h e
          · exact h
        have h2 : y ∈ l := by
          have := hp.mem_iff.2 (List.mem_cons_self (a := y) (l := m))
          rcases List.mem_cons.1 this with h | h
          · exact absurd h.symm e
          · exact h
        exact anti _ _ ((List.pairwise_cons.1 hl).1 y h2) ((List.pairwise_cons.1 hm).1 x h1)
    subst hxy
    rw [sorted_unique anti ((List.perm_cons x).1 hp) (List.pairwise_cons.1 hl).2 (List.pairwise_cons.1 hm).2]

end Go.Proofs.Qxb6602564a.Pl
