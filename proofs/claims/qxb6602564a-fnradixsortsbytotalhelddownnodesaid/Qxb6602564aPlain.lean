/-
  PLAIN LAWS, no Go in sight: pieces of a function over the natural numbers as lists; a bottom-up merge sort, round by round; repeats and sorted neighbours.
-/
namespace Go.Proofs.Qxb6602564a.Pl

/-- The values f lo, .., f (hi - 1). -/
def seg {α : Type} (f : Nat → α) (lo hi : Nat) : List α := (List.range' lo (hi - lo)).map f

theorem seg_self {α : Type} (f : Nat → α) (lo : Nat) : seg f lo lo = [] := by simp [seg]

theorem seg_nil {α : Type} (f : Nat → α) {lo hi : Nat} (h : hi ≤ lo) : seg f lo hi = [] := by
  simp [seg, Nat.sub_eq_zero_of_le h]

theorem seg_succ {α : Type} (f : Nat → α) {lo k : Nat} (h : lo ≤ k) : seg f lo (k + 1) = seg f lo k ++ [f k] := by
  unfold seg
  rw [show k + 1 - lo = (k - lo) + 1 by omega, List.range'_1_concat, List.map_append]
  simp [show lo + (k - lo) = k by omega]

theorem seg_length {α : Type} (f : Nat → α) (lo hi : Nat) : (seg f lo hi).length = hi - lo := by simp [seg]

theorem seg_split {α : Type} (f : Nat → α) {lo m hi : Nat} (h1 : lo ≤ m) (h2 : m ≤ hi) : seg f lo hi = seg f lo m ++ seg f m hi := by
  unfold seg
  rw [← List.map_append]
  congr 1
  rw [show hi - lo = (m - lo) + (hi - m) by omega, ← List.range'_append_1, show lo + (m - lo) = m by omega]

theorem seg_congr {α : Type} {f g : Nat → α} {lo hi : Nat} (h : ∀ i, lo ≤ i → i < hi → f i = g i) : seg f lo hi = seg g lo hi := by
  unfold seg
  refine List.map_congr_left fun i hi' => ?_
  rw [List.mem_range'_1] at hi'
  exact h i (by omega) (by omega)

theorem mem_seg {α : Type} {f : Nat → α} {lo hi : Nat} {x : α} : x ∈ seg f lo hi ↔ ∃ i, lo ≤ i ∧ i < hi ∧ f i = x := by
  unfold seg
  rw [List.mem_map]
  constructor
  · rintro ⟨i, hi', rfl⟩
    rw [List.mem_range'_1] at hi'
    exact ⟨i, by omega, by omega, rfl⟩
  · rintro ⟨i, h1, h2, rfl⟩
    exact ⟨i, by rw [List.mem_range'_1]; omega, rfl⟩

theorem seg_get {α : Type} (f : Nat → α) (lo hi : Nat) {i : Nat} (h : i < (seg f lo hi).length) : (seg f lo hi)[i] = f (lo + i) := by
  simp [seg]

theorem seg_getOpt {α : Type} (f : Nat → α) (n : Nat) {i : Nat} (h : i < n) : (seg f 0 n)[i]? = some (f i) := by
  simp [seg, h]

/-- f with x laid at k. -/
def upd {α : Type} (f : Nat → α) (k : Nat) (x : α) : Nat → α := fun i => if i = k then x else f i

theorem upd_at {α : Type} (f : Nat → α) (k : Nat) (x : α) : upd f k x k = x := by simp [upd]
theorem upd_ne {α : Type} (f : Nat → α) {k i : Nat} (x : α) (h : i ≠ k) : upd f k x i = f i := by simp [upd, h]

theorem seg_upd_out {α : Type} (f : Nat → α) (x : α) {lo hi k : Nat} (h : k < lo ∨ hi ≤ k) : seg (upd f k x) lo hi = seg f lo hi :=
  seg_congr fun i h1 h2 => upd_ne f x (by omega)

/-! ### The order -/

/-- A strict order's test whose 'not less' is transitive. -/
structure Strict {α : Type} (lt : α → α → Bool) : Prop where
  asymm : ∀ a b, lt a b = true → lt b a = false
  trans : ∀ a b c, lt b a = false → lt c b = false → lt c a = false

theorem Strict.irrefl {α : Type} {lt : α → α → Bool} (h : Strict lt) (a : α) : lt a a = false := by
  cases e : lt a a with
  | false => rfl
  | true => have := h.asymm a a e; rw [e] at this; exact this

/-- f is in order from lo on, ahead of hi. -/
def InOrder {α : Type} (lt : α → α → Bool) (f : Nat → α) (lo hi : Nat) : Prop := ∀ a b, lo ≤ a → a < b → b < hi → lt (f b) (f a) = false

/-! ### One merge -/

structure MInv {α : Type} (lt : α → α → Bool) (src dst : Nat → α) (lo mid hi i j k : Nat) : Prop where
  i1 : lo ≤ i
  i2 : i ≤ mid
  j1 : mid ≤ j
  j2 : j ≤ hi
  k1 : k + mid = i + j
  perm : (seg dst lo k).Perm (seg src lo i ++ seg src mid j)
  sorted : InOrder lt dst lo k
  left : i < mid → ∀ a, lo ≤ a → a < k → lt (src i) (dst a) = false
  right : j < hi → ∀ a, lo ≤ a → a < k → lt (src j) (dst a) = false

theorem MInv.start {α : Type} (lt : α → α → Bool) (src dst : Nat → α) {lo mid hi : Nat} (h1 : lo ≤ mid) (h2 : mid ≤ hi) : MInv lt src dst lo mid hi lo mid lo :=
  ⟨Nat.le_refl _, h1, Nat.le_refl _, h2, by omega, by simp [seg_self], fun a b _ _ _ => by omega, fun _ a _ _ => by omega, fun _ a _ _ => by omega⟩

theorem MInv.takeJ {α : Type} {lt : α → α → Bool} (O : Strict lt) {src dst : Nat → α} {lo mid hi i j k : Nat} (h : MInv lt src dst lo mid hi i j k)
    (hs2 : InOrder lt src mid hi) (hj : j < hi) (hc : i < mid → lt (src j) (src i) = true) :
    MInv lt src (upd dst k (src j)) lo mid hi i (j + 1) (k + 1) := by
  have hk : lo ≤ k := by have := h.i1; have := h.j1; have := h.k1; omega
  refine ⟨h.i1, h.i2, by have := h.j1; omega, by omega, by have := h.k1; omega, ?_, ?_, ?_, ?_⟩
  · rw [seg_succ _ hk, upd_at, seg_upd_out _ _ (Or.inr (Nat.le_refl _)), seg_succ _ h.j1, ← List.append_assoc]
    exact h.perm.append_right _
  · intro a b h1 h2 h3
    by_cases e : b = k
    · subst e
      rw [upd_at, upd_ne _ _ (by omega)]
      exact h.right hj a h1 h2
    · rw [upd_ne _ _ e, upd_ne _ _ (by omega)]
      exact h.sorted a b h1 h2 (by omega)
  · intro hi' a h1 h2
    by_cases e : a = k
    · subst e
      rw [upd_at]
      exact O.asymm _ _ (hc hi')
    · rw [upd_ne _ _ e]
      exact h.left hi' a h1 (by omega)
  · intro hj' a h1 h2
    have hn := hs2 j (j + 1) h.j1 (by omega) hj'
    by_cases e : a = k
    · subst e
      rw [upd_at]
      exact hn
    · rw [upd_ne _ _ e]
      exact O.trans _ _ _ (h.right hj a h1 (by omega)) hn

theorem MInv.takeI {α : Type} {lt : α → α → Bool} (O : Strict lt) {src dst : Nat → α} {lo mid hi i j k : Nat} (h : MInv lt src dst lo mid hi i j k)
    (hs1 : InOrder lt src lo mid) (hi' : i < mid) (hc : j < hi → lt (src j) (src i) = false) :
    MInv lt src (upd dst k (src i)) lo mid hi (i + 1) j (k + 1) := by
  have hk : lo ≤ k := by have := h.i1; have := h.j1; have := h.k1; omega
  refine ⟨by have := h.i1; omega, by omega, h.j1, h.j2, by have := h.k1; omega, ?_, ?_, ?_, ?_⟩
  · rw [seg_succ _ hk, upd_at, seg_upd_out _ _ (Or.inr (Nat.le_refl _)), seg_succ _ h.i1]
    refine (h.perm.append_right [src i]).trans ?_
    rw [List.append_assoc, List.append_assoc]
    exact List.Perm.append_left _ List.perm_append_comm
  · intro a b h1 h2 h3
    by_cases e : b = k
    · subst e
      rw [upd_at, upd_ne _ _ (by omega)]
      exact h.left hi' a h1 h2
    · rw [upd_ne _ _ e, upd_ne _ _ (by omega)]
      exact h.sorted a b h1 h2 (by omega)
  · intro hi2 a h1 h2
    have hn := hs1 i (i + 1) h.i1 (by omega) hi2
    by_cases e : a = k
    · subst e
      rw [upd_at]
      exact hn
    · rw [upd_ne _ _ e]
      exact O.trans _ _ _ (h.left hi' a h1 (by omega)) hn
  · intro hj' a h1 h2
    by_cases e : a = k
    · subst e
      rw [upd_at]
      exact hc hj'
    · rw [upd_ne _ _ e]
      exact h.right hj' a h1 (by omega)

/-! ### The chunks -/

/-- Every chunk of w values, from a multiple of w on, is in order. -/
def Chunks {α : Type} (lt : α → α → Bool) (f : Nat → α) (n w : Nat) : Prop := ∀ q a b, q * w ≤ a → a < b → b < (q + 1) * w → b < n → lt (f b) (f a) = false

theorem chunks_one {α : Type} (lt : α → α → Bool) (f : Nat → α) (n : Nat) : Chunks lt f n 1 := by
  intro q a b h1 h2 h3 _
  omega

theorem chunks_whole {α : Type} {lt : α → α → Bool} {f : Nat → α} {n w : Nat} (h : Chunks lt f n w) (hw : n ≤ w) : InOrder lt f 0 n := by
  intro a b _ h2 h3
  exact h 0 a b (by omega) h2 (by omega) h3

/-- What the rounds over lo keep: what lies ahead of lo is merged. -/
structure LInv {α : Type} (lt : α → α → Bool) (src dst : Nat → α) (n w q lo : Nat) : Prop where
  lo1 : lo = q * (2 * w)
  perm : (seg dst 0 (min lo n)).Perm (seg src 0 (min lo n))
  chunks : Chunks lt dst (min lo n) (2 * w)

theorem LInv.start {α : Type} (lt : α → α → Bool) (src dst : Nat → α) (n w : Nat) : LInv lt src dst n w 0 0 :=
  ⟨by simp, by simp [seg_self], fun _ a b _ _ _ h => by simp at h⟩

/-- The halves of the chunk at lo are in order. -/
theorem Chunks.left {α : Type} {lt : α → α → Bool} {f : Nat → α} {n w q lo : Nat} (h : Chunks lt f n w) (hlo : lo = q * (2 * w)) : InOrder lt f lo (min (lo + w) n) := by
  intro a b h1 h2 h3
  have e : q * (2 * w) = (2 * q) * w := by rw [← Nat.mul_assoc, Nat.mul_comm q 2]
  refine h (2 * q) a b (by omega) h2 ?_ (by omega)
  rw [Nat.add_mul]
  omega

theorem Chunks.right {α : Type} {lt : α → α → Bool} {f : Nat → α} {n w q lo : Nat} (h : Chunks lt f n w) (hlo : lo = q * (2 * w)) : InOrder lt f (min (lo + w) n) (min (lo + 2 * w) n) := by
  intro a b h1 h2 h3
  have e : q * (2 * w) = (2 * q) * w := by rw [← Nat.mul_assoc, Nat.mul_comm q 2]
  refine h (2 * q + 1) a b ?_ h2 ?_ (by omega)
  · rw [Nat.add_mul]; omega
  · rw [Nat.add_mul, Nat.add_mul]; omega

theorem LInv.step {α : Type} {lt : α → α → Bool} {src dst dst' : Nat → α} {n w q lo i j : Nat} (h : LInv lt src dst n w q lo) (hlt : lo < n)
    (hold : ∀ x, x < lo → dst' x = dst x) (m : MInv lt src dst' lo (min (lo + w) n) (min (lo + 2 * w) n) i j (min (lo + 2 * w) n)) :
    LInv lt src dst' n w (q + 1) (lo + 2 * w) := by
  have e1 : min lo n = lo := by omega
  have hmi : i = min (lo + w) n := by have := m.i2; have := m.j2; have := m.k1; omega
  have hmj : j = min (lo + 2 * w) n := by have := m.i2; have := m.j2; have := m.k1; omega
  refine ⟨by rw [Nat.add_mul, ← h.lo1]; omega, ?_, ?_⟩
  · have p := m.perm
    rw [hmi, hmj, ← seg_split _ (by omega) (by omega)] at p
    rw [seg_split dst' (Nat.zero_le lo) (by omega), seg_split src (Nat.zero_le lo) (by omega)]
    refine List.Perm.append ?_ p
    have p0 := h.perm
    rw [e1] at p0
    rw [seg_congr (fun x _ hx => hold x hx)]
    exact p0
  · intro q' a b h1 h2 h3 h4
    by_cases hb : b < lo
    · rw [hold b hb, hold a (by omega)]
      exact h.chunks q' a b h1 h2 h3 (by omega)
    · by_cases ha : lo ≤ a
      · exact m.sorted a b ha h2 h4
      · exfalso
        have hlo := h.lo1
        have hq : q' < q := by
          refine Nat.lt_of_not_le fun hle => ?_
          have := Nat.mul_le_mul_right (2 * w) hle
          omega
        have := Nat.mul_le_mul_right (2 * w) (show q' + 1 ≤ q from hq)
        omega

theorem LInv.done {α : Type} {lt : α → α → Bool} {src dst : Nat → α} {n w q lo : Nat} (h : LInv lt src dst n w q lo) (hge : n ≤ lo) :
    (seg dst 0 n).Perm (seg src 0 n) ∧ Chunks lt dst n (2 * w) := by
  have e : min lo n = n := by omega
  have p := h.perm
  have c := h.chunks
  rw [e] at p c
  exact ⟨p, c⟩

/-! ### Repeats -/

/-- A value stands twice among the first n. -/
def Rep {α : Type} (f : Nat → α) (n : Nat) : Prop := ∃ i j, j < i ∧ i < n ∧ f i = f j

theorem rep_nodup {α : Type} (f : Nat → α) (n : Nat) : (seg f 0 n).Nodup ↔ ¬ Rep f n := by
  rw [List.nodup_iff_pairwise_ne, List.pairwise_iff_getElem]
  constructor
  · rintro h ⟨i, j, h1, h2, h3⟩
    have := h j i (by simp [seg_length]; omega) (by simp [seg_length]; omega) h1
    rw [seg_get, seg_get] at this
    simp at this
    exact this h3.symm
  · intro h i j hi hj hlt
    rw [seg_get, seg_get]
    intro e
    simp [seg_length] at hj
    exact h ⟨j, i, hlt, hj, by simpa using e.symm⟩

theorem rep_of_perm {α : Type} {f g : Nat → α} {n m : Nat} (h : (seg f 0 n).Perm (seg g 0 m)) : Rep f n ↔ Rep g m := by
  have h1 := rep_nodup f n
  have h2 := rep_nodup g m
  rw [h.nodup_iff] at h1
  rw [h1] at h2
  by_cases a : Rep f n <;> by_cases b : Rep g m <;> simp_all

/-- Two neighbours are equal. -/
def Adj {α : Type} (f : Nat → α) (n : Nat) : Prop := ∃ i, i + 1 < n ∧ f (i + 1) = f i

theorem adj_iff_rep {α : Type} {lt : α → α → Bool} (O : Strict lt) (tri : ∀ a b, lt a b = false → lt b a = false → a = b) {f : Nat → α} {n : Nat} (h : InOrder lt f 0 n) : Adj f n ↔ Rep f n := by
  constructor
  · rintro ⟨i, h1, h2⟩
    exact ⟨i + 1, i, by omega, h1, h2⟩
  · rintro ⟨i, j, h1, h2, h3⟩
    refine ⟨j, by omega, tri _ _ (h j (j + 1) (Nat.zero_le _) (by omega) (by omega)) ?_⟩
    by_cases e : i = j + 1
    · subst e; rw [h3]; exact O.irrefl _
    · have := h (j + 1) i (Nat.zero_le _) (by omega) h2
      rwa [h3] at this

/-- Two lists end to end. -/
def cat {α : Type} (f g : Nat → α) (n : Nat) : Nat → α := fun i => if i < n then f i else g (i - n)

def Share {α : Type} (f : Nat → α) (n : Nat) (g : Nat → α) (m : Nat) : Prop := ∃ i j, i < n ∧ j < m ∧ f i = g j

theorem rep_cat {α : Type} (f g : Nat → α) (n m : Nat) : Rep (cat f g n) (n + m) ↔ (Rep f n ∨ Rep g m ∨ Share f n g m) := by
  constructor
  · rintro ⟨i, j, h1, h2, h3⟩
    unfold cat at h3
    by_cases hi : i < n
    · rw [if_pos hi, if_pos (by omega)] at h3
      exact .inl ⟨i, j, h1, hi, h3⟩
    · rw [if_neg hi] at h3
      by_cases hj : j < n
      · rw [if_pos hj] at h3
        exact .inr (.inr ⟨j, i - n, hj, by omega, h3.symm⟩)
      · rw [if_neg hj] at h3
        exact .inr (.inl ⟨i - n, j - n, by omega, by omega, h3⟩)
  · rintro (⟨i, j, h1, h2, h3⟩ | ⟨i, j, h1, h2, h3⟩ | ⟨i, j, h1, h2, h3⟩)
    · exact ⟨i, j, h1, by omega, by simp only [cat]; rw [if_pos h2, if_pos (by omega)]; exact h3⟩
    · exact ⟨n + i, n + j, by omega, by omega, by simp only [cat]; rw [if_neg (by omega), if_neg (by omega)]; simpa using h3⟩
    · exact ⟨n + j, i, by omega, by omega, by simp only [cat]; rw [if_neg (by omega), if_pos h1]; simpa using h3.symm⟩

end Go.Proofs.Qxb6602564a.Pl
