/-
  THE PLAIN MATHEMATICS OF A FENWICK TREE: no Go in sight. The lowest bit; the tree built in one pass upward; the descent; next and prev.
-/
namespace Go.Proofs.Qxb6615931a.Fen

/-- The lowest set bit, as Go's 'j - (j & (j-1))'. -/
def lb (j : Nat) : Nat := j - (j &&& (j - 1))

theorem land_two (x y : Nat) : (2 * x) &&& (2 * y + 1) = 2 * (x &&& y) := by
  apply Nat.eq_of_testBit_eq
  intro i
  cases i with
  | zero => simp
  | succ i =>
    have h1 : (2 * x) / 2 = x := by omega
    have h2 : (2 * y + 1) / 2 = y := by omega
    have h3 : (2 * (x &&& y)) / 2 = x &&& y := by omega
    rw [Nat.testBit_and, Nat.testBit_succ, Nat.testBit_succ, Nat.testBit_succ, h1, h2, h3, Nat.testBit_and]

theorem land_odd (b : Nat) : (2 * b + 1) &&& (2 * b) = 2 * b := by
  rw [Nat.and_comm, land_two, Nat.and_self]

theorem land_pred (a b : Nat) : (2 ^ a * (2 * b + 1)) &&& (2 ^ a * (2 * b + 1) - 1) = 2 ^ (a + 1) * b := by
  induction a with
  | zero => simpa using land_odd b
  | succ a ih =>
    have hp : 0 < 2 ^ a * (2 * b + 1) := Nat.mul_pos (Nat.two_pow_pos a) (by omega)
    have e1 : 2 ^ (a + 1) * (2 * b + 1) = 2 * (2 ^ a * (2 * b + 1)) := by rw [Nat.pow_succ]; simp [Nat.mul_comm, Nat.mul_left_comm]
    have e2 : 2 * (2 ^ a * (2 * b + 1)) - 1 = 2 * (2 ^ a * (2 * b + 1) - 1) + 1 := by omega
    rw [e1, e2, land_two, ih]
    rw [Nat.pow_succ 2 (a + 1)]; simp [Nat.mul_comm, Nat.mul_left_comm]

theorem lb_of (a b : Nat) : lb (2 ^ a * (2 * b + 1)) = 2 ^ a := by
  unfold lb
  rw [land_pred]
  have : 2 ^ a * (2 * b + 1) = 2 ^ (a + 1) * b + 2 ^ a := by
    rw [Nat.mul_add, Nat.pow_succ]; simp [Nat.mul_assoc]
  rw [this, Nat.add_sub_cancel_left]

theorem split_of (k : Nat) : ∀ j, j ≤ k → 0 < j → ∃ a b, j = 2 ^ a * (2 * b + 1) := by
  induction k with
  | zero => intro j h1 h2; omega
  | succ k ih =>
    intro j h1 h2
    by_cases ho : j % 2 = 1
    · exact ⟨0, j / 2, by simp; omega⟩
    · obtain ⟨a, b, h⟩ := ih (j / 2) (by omega) (by omega)
      refine ⟨a + 1, b, ?_⟩
      have e1 : 2 ^ (a + 1) * (2 * b + 1) = 2 * (2 ^ a * (2 * b + 1)) := by rw [Nat.pow_succ]; simp [Nat.mul_comm, Nat.mul_left_comm]
      omega

theorem splits {j : Nat} (h : 0 < j) : ∃ a b, j = 2 ^ a * (2 * b + 1) := split_of j j (Nat.le_refl _) h

theorem lb_pos {j : Nat} (h : 0 < j) : 0 < lb j := by
  obtain ⟨a, b, rfl⟩ := splits h
  rw [lb_of]; exact Nat.two_pow_pos a

theorem lb_le (j : Nat) : lb j ≤ j := Nat.sub_le _ _

theorem land_eq (j : Nat) : j &&& (j - 1) = j - lb j := by
  have : j &&& (j - 1) ≤ j := Nat.and_le_left
  unfold lb; omega

/-- 'i' a multiple of 2 s, s a power of two: the lowest bit of i + s is s. -/
theorem lb_add (a q : Nat) : lb (2 ^ (a + 1) * q + 2 ^ a) = 2 ^ a := by
  have : 2 ^ (a + 1) * q + 2 ^ a = 2 ^ a * (2 * q + 1) := by
    rw [Nat.mul_add, Nat.pow_succ]; simp [Nat.mul_assoc]
  rw [this, lb_of]

/-! ### The tree is built in one pass upward. 'mx k J': up to where the part of node k that has been gathered goes, when the nodes below J have been handed on. -/
def mx (k : Nat) : Nat → Nat
  | 0 => k - lb k
  | J + 1 => if J + lb J = k ∧ 0 < J then J else mx k J

/-- Between two multiples of 2^(a+1) nothing but the middle hands on beyond. -/
theorem hands_within (a q x : Nat) (h1 : 2 ^ a * q < x) (h2 : x < 2 ^ a * (q + 1)) : x + lb x ≤ 2 ^ a * (q + 1) := by
  obtain ⟨c, d, rfl⟩ := splits (show 0 < x by omega)
  rw [lb_of]
  by_cases hca : c < a
  · obtain ⟨e, rfl⟩ : ∃ e, a = c + 1 + e := ⟨a - (c + 1), by omega⟩
    have e1 : 2 ^ (c + 1 + e) * (q + 1) = 2 ^ c * (2 * (2 ^ e * (q + 1))) := by rw [Nat.pow_add, Nat.pow_succ]; simp [Nat.mul_assoc]
    rw [e1] at h2 ⊢
    have h3 := Nat.lt_of_mul_lt_mul_left h2
    have e2 : 2 ^ c * (2 * d + 1) + 2 ^ c = 2 ^ c * (2 * d + 2) := by simp [Nat.mul_add]; omega
    rw [e2]
    exact Nat.mul_le_mul_left _ (by omega)
  · exfalso
    obtain ⟨e, rfl⟩ : ∃ e, c = a + e := ⟨c - a, by omega⟩
    have e1 : 2 ^ (a + e) * (2 * d + 1) = 2 ^ a * (2 ^ e * (2 * d + 1)) := by rw [Nat.pow_add, Nat.mul_assoc]
    rw [e1] at h1 h2
    have g1 := Nat.lt_of_mul_lt_mul_left h1
    have g2 := Nat.lt_of_mul_lt_mul_left h2
    omega

theorem mx_stay (k m : Nat) : ∀ d, (∀ x, m ≤ x → x < m + d → ¬ (x + lb x = k ∧ 0 < x)) → mx k (m + d) = mx k m := by
  intro d
  induction d with
  | zero => intro _; rfl
  | succ d ih =>
    intro h
    have e : m + (d + 1) = (m + d) + 1 := by omega
    rw [e]
    show (if (m + d) + lb (m + d) = k ∧ 0 < m + d then m + d else mx k (m + d)) = _
    rw [if_neg (h (m + d) (by omega) (by omega))]
    exact ih (fun x h1 h2 => h x h1 (by omega))

theorem mx_low (k : Nat) : mx k (k - lb k + 1) = k - lb k := by
  have base : mx k 0 = k - lb k := rfl
  by_cases hk : k = 0
  · subst hk; rfl
  obtain ⟨a, b, h⟩ := splits (show 0 < k by omega)
  have hl : lb k = 2 ^ a := by rw [h, lb_of]
  have hp := Nat.two_pow_pos a
  have hkb : k - lb k = 2 ^ (a + 1) * b := by
    rw [hl]
    have : 2 ^ a * (2 * b + 1) = 2 ^ (a + 1) * b + 2 ^ a := by rw [Nat.mul_add, Nat.pow_succ]; simp [Nat.mul_assoc]
    omega
  have := mx_stay k 0 (k - lb k + 1) (fun x _ h2 => by
    rintro ⟨h3, h4⟩
    have h2' : x ≤ k - lb k := by omega
    by_cases he : x = k - lb k
    · -- x is a multiple of 2^(a+1), so its lowest bit is larger
      obtain ⟨c, d, hx⟩ := splits h4
      have hlx : lb x = 2 ^ c := by rw [hx, lb_of]
      have hc : c = a := by
        have h5 : 2 ^ c = 2 ^ a := by omega
        exact (Nat.pow_right_inj (by omega)).1 h5
      subst hc
      have h6 : 2 ^ c * (2 * d + 1) = 2 ^ c * (2 * b) := by
        rw [← hx, he, hkb, Nat.pow_succ]; simp [Nat.mul_assoc]
      have := Nat.eq_of_mul_eq_mul_left hp h6
      omega
    · -- x below: it hands on at most to k - lb k
      have hxl : x < 2 ^ (a + 1) * b := by omega
      -- the block of size 2^(a+1) that x lies in
      have hp1 := Nat.two_pow_pos (a + 1)
      have hdm := Nat.div_add_mod x (2 ^ (a + 1))
      have hmod := Nat.mod_lt x hp1
      have hqb : x / 2 ^ (a + 1) < b := by
        rw [Nat.div_lt_iff_lt_mul hp1, Nat.mul_comm]; exact hxl
      have hle : 2 ^ (a + 1) * (x / 2 ^ (a + 1) + 1) ≤ 2 ^ (a + 1) * b := Nat.mul_le_mul_left _ (by omega)
      have hsucc : 2 ^ (a + 1) * (x / 2 ^ (a + 1) + 1) = 2 ^ (a + 1) * (x / 2 ^ (a + 1)) + 2 ^ (a + 1) := by rw [Nat.mul_add, Nat.mul_one]
      by_cases hm0 : x % 2 ^ (a + 1) = 0
      · -- a multiple: x + lb x = k is impossible, k is no multiple of 2^(a+1) .. and lb x is one
        have hxm : x = 2 ^ (a + 1) * (x / 2 ^ (a + 1)) := by omega
        obtain ⟨c, d, hx⟩ := splits h4
        have hlx : lb x = 2 ^ c := by rw [hx, lb_of]
        by_cases hca : c ≤ a
        · obtain ⟨e, rfl⟩ : ∃ e, a = c + e := ⟨a - c, by omega⟩
          have e1 : 2 ^ c * (2 * d + 1) = 2 ^ c * (2 * (2 ^ e * (x / 2 ^ (c + e + 1)))) := by
            rw [← hx]
            rw [Nat.pow_succ, Nat.pow_add] at hxm
            rw [Nat.pow_succ, Nat.pow_add]
            simpa [Nat.mul_assoc, Nat.mul_comm, Nat.mul_left_comm] using hxm
          have := Nat.eq_of_mul_eq_mul_left (Nat.two_pow_pos c) e1
          omega
        · obtain ⟨e, rfl⟩ : ∃ e, c = a + 1 + e := ⟨c - (a + 1), by omega⟩
          have e1 : 2 ^ a * (2 * b + 1) = 2 ^ a * (2 * (2 ^ e * (2 * d + 2))) := by
            rw [← h, ← h3, hlx, hx]
            have : 2 ^ (a + 1 + e) = 2 ^ a * (2 * 2 ^ e) := by rw [Nat.pow_add, Nat.pow_succ]; simp [Nat.mul_assoc]
            rw [this, ← Nat.mul_add_one, Nat.mul_assoc, Nat.mul_assoc]
          have := Nat.eq_of_mul_eq_mul_left hp e1
          omega
      · have := hands_within (a + 1) (x / 2 ^ (a + 1)) x (by omega) (by omega)
        omega)
  simp only [Nat.zero_add] at this
  rw [this, base]

/-- (A) WHEN J HANDS ON TO ITS PARENT, THE PARENT HAS GATHERED JUST UP TO WHERE J BEGINS. -/
theorem mx_parent {J : Nat} (hJ : 0 < J) : mx (J + lb J) J = J - lb J := by
  obtain ⟨a, b, h⟩ := splits hJ
  have hl : lb J = 2 ^ a := by rw [h, lb_of]
  have hp := Nat.two_pow_pos a
  have hJ2 : J = 2 ^ (a + 1) * b + 2 ^ a := by
    have : 2 ^ a * (2 * b + 1) = 2 ^ (a + 1) * b + 2 ^ a := by rw [Nat.mul_add, Nat.pow_succ]; simp [Nat.mul_assoc]
    omega
  have hPa : J + lb J = 2 ^ (a + 1) * (b + 1) := by rw [hl, hJ2, Nat.mul_add, Nat.pow_succ]; omega
  have hlow : J - lb J = 2 ^ (a + 1) * b := by omega
  -- just behind J - lb J
  have hstart : mx (J + lb J) (J - lb J + 1) = J - lb J := by
    by_cases hb : b % 2 = 0
    · -- the parent's own low end is J - lb J
      have : lb (J + lb J) = 2 ^ (a + 1) := by
        obtain ⟨c, hc⟩ : ∃ c, b = 2 * c := ⟨b / 2, by omega⟩
        rw [hPa, hc, lb_of]
      have e : J + lb J - lb (J + lb J) = J - lb J := by
        rw [this, hPa, hlow, Nat.mul_add, Nat.mul_one]; omega
      rw [← e]; exact mx_low _
    · -- J - lb J is itself a child
      have hx : lb (J - lb J) = 2 ^ (a + 1) := by
        obtain ⟨c, hc⟩ : ∃ c, b = 2 * c + 1 := ⟨b / 2, by omega⟩
        rw [hlow, hc, lb_of]
      show (if (J - lb J) + lb (J - lb J) = J + lb J ∧ 0 < J - lb J then J - lb J else _) = _
      rw [if_pos]
      refine ⟨?_, ?_⟩
      · rw [hx, hPa, hlow, Nat.mul_add, Nat.mul_one]
      · rw [hlow]; exact Nat.mul_pos (Nat.two_pow_pos _) (by omega)
  have hd : J = (J - lb J + 1) + (lb J - 1) := by omega
  have := mx_stay (J + lb J) (J - lb J + 1) (lb J - 1) (fun x h1 h2 => by
    rintro ⟨h3, h4⟩
    have e0 : 2 ^ a * (2 * b) = 2 ^ (a + 1) * b := by rw [Nat.pow_succ, Nat.mul_assoc]
    have h5 := hands_within a (2 * b) x (by rw [e0]; omega) (by
      have : 2 ^ a * (2 * b + 1) = J := h.symm
      omega)
    have : 2 ^ a * (2 * b + 1) = J := h.symm
    omega)
  rw [← hd] at this
  rw [this, hstart]

/-- (B) WHEN ITS TURN COMES, NODE k HAS GATHERED ALL BUT ITS OWN ENTRY. -/
theorem mx_own {k : Nat} (hk : 0 < k) : mx k k = k - 1 := by
  by_cases ho : k % 2 = 1
  · have hl : lb k = 1 := by
      have := lb_of 0 (k / 2)
      have e : 2 ^ 0 * (2 * (k / 2) + 1) = k := by simp; omega
      rw [e] at this; simpa using this
    have := mx_low k
    rw [hl] at this
    have e : k - 1 + 1 = k := by omega
    rwa [e] at this
  · obtain ⟨j, rfl⟩ : ∃ j, k = j + 1 := ⟨k - 1, by omega⟩
    have hl : lb j = 1 := by
      have := lb_of 0 (j / 2)
      have e : 2 ^ 0 * (2 * (j / 2) + 1) = j := by simp; omega
      rw [e] at this; simpa using this
    show (if j + lb j = j + 1 ∧ 0 < j then j else _) = _
    rw [if_pos ⟨by omega, by omega⟩]; omega

theorem mx_done {k J : Nat} (hk : 0 < k) (hJ : k ≤ J) : mx k J = k - 1 := by
  obtain ⟨d, rfl⟩ : ∃ d, J = k + d := ⟨J - k, by omega⟩
  rw [mx_stay k k d (fun x h1 _ => by
    rintro ⟨h3, h4⟩
    have := lb_pos h4
    omega)]
  exact mx_own hk

theorem mx_range {k : Nat} (hk : 0 < k) (J : Nat) : k - lb k ≤ mx k J ∧ mx k J ≤ k - 1 := by
  induction J with
  | zero => have := lb_pos hk; have := lb_le k; exact ⟨Nat.le_refl _, by show k - lb k ≤ k - 1; omega⟩
  | succ J ih =>
    show k - lb k ≤ (if J + lb J = k ∧ 0 < J then J else mx k J) ∧ (if J + lb J = k ∧ 0 < J then J else mx k J) ≤ k - 1
    by_cases h : J + lb J = k ∧ 0 < J
    · rw [if_pos h]
      have hp := lb_pos h.2
      refine ⟨?_, by omega⟩
      have h1 := mx_parent h.2
      rw [h.1] at h1
      have := ih.1
      omega
    · rw [if_neg h]; exact ih

/-- What the entries before k weigh. -/
def S (u : Nat → Int) : Nat → Int
  | 0 => 0
  | k + 1 => S u k + u k

theorem S_mono {u : Nat → Int} (hu : ∀ e, 0 ≤ u e) (a b : Nat) (h : a ≤ b) : S u a ≤ S u b := by
  obtain ⟨d, rfl⟩ : ∃ d, b = a + d := ⟨b - a, by omega⟩
  induction d with
  | zero => exact Int.le_refl _
  | succ d ih =>
    have h1 := ih (by omega)
    have h2 := hu (a + d)
    show _ ≤ S u (a + d) + u (a + d)
    omega

theorem S_nonneg {u : Nat → Int} (hu : ∀ e, 0 ≤ u e) (a : Nat) : 0 ≤ S u a := S_mono hu 0 a (Nat.zero_le _)

/-- Node k, whole. -/
def T (u : Nat → Int) (k : Nat) : Int := S u k - S u (k - lb k)
/-- Node k when the nodes from 1 to J - 1 have handed on. -/
def tr (u : Nat → Int) (J k : Nat) : Int := if k = 0 then 0 else u (k - 1) + (S u (mx k J) - S u (k - lb k))

theorem tr_first (u : Nat → Int) (k : Nat) : tr u 1 k = if k = 0 then 0 else u (k - 1) := by
  unfold tr
  by_cases hk : k = 0
  · simp [hk]
  · rw [if_neg hk, if_neg hk]
    have : mx k 1 = k - lb k := by
      show (if 0 + lb 0 = k ∧ 0 < 0 then 0 else mx k 0) = _
      rw [if_neg (by omega)]; rfl
    rw [this]; omega

theorem tr_done (u : Nat → Int) {J k : Nat} (hk : 0 < k) (hJ : k ≤ J) : tr u J k = T u k := by
  unfold tr T
  rw [if_neg (by omega), mx_done hk hJ]
  obtain ⟨j, rfl⟩ : ∃ j, k = j + 1 := ⟨k - 1, by omega⟩
  show u j + (S u j - _) = S u j + u j - _
  omega

theorem tr_parent (u : Nat → Int) {J : Nat} (hJ : 0 < J) : tr u (J + 1) (J + lb J) = tr u J (J + lb J) + tr u J J := by
  rw [tr_done u hJ (Nat.le_refl J)]
  have e : mx (J + lb J) (J + 1) = J := by
    show (if J + lb J = J + lb J ∧ 0 < J then J else _) = J
    rw [if_pos ⟨rfl, hJ⟩]
  unfold tr T
  rw [if_neg (by omega), if_neg (by omega), e, mx_parent hJ]
  omega

theorem tr_other (u : Nat → Int) {J k : Nat} (h : k ≠ J + lb J) : tr u (J + 1) k = tr u J k := by
  have e : mx k (J + 1) = mx k J := by
    show (if J + lb J = k ∧ 0 < J then J else mx k J) = _
    rw [if_neg (by omega)]
  unfold tr
  rw [e]

theorem tr_range {u : Nat → Int} (hu : ∀ e, 0 ≤ u e) {n J k : Nat} (hk : k ≤ n) : 0 ≤ tr u J k ∧ tr u J k ≤ S u n := by
  unfold tr
  by_cases h0 : k = 0
  · rw [if_pos h0]; exact ⟨Int.le_refl _, S_nonneg hu n⟩
  · rw [if_neg h0]
    have hr := mx_range (show 0 < k by omega) J
    have h1 := S_mono hu _ _ hr.1
    have h2 := S_mono hu _ _ hr.2
    have h3 := S_mono hu k n hk
    have h4 := S_nonneg hu (k - lb k)
    have h5 := hu (k - 1)
    have h6 : S u k = S u (k - 1) + u (k - 1) := by
      obtain ⟨j, rfl⟩ : ∃ j, k = j + 1 := ⟨k - 1, by omega⟩
      rfl
    omega

theorem T_range {u : Nat → Int} (hu : ∀ e, 0 ≤ u e) {n k : Nat} (hk : k ≤ n) : 0 ≤ T u k ∧ T u k ≤ S u n := by
  unfold T
  have h1 := S_mono hu (k - lb k) k (Nat.sub_le _ _)
  have h2 := S_mono hu k n hk
  have h3 := S_nonneg hu (k - lb k)
  omega

/-! ### 'find': what the descent comes to -/
def Found (u : Nat → Int) (n : Nat) (r g : Int) : Prop :=
  ((r < 0 ∨ S u n ≤ r) ∧ g = -1) ∨ (0 ≤ r ∧ r < S u n ∧ ∃ i : Nat, i < n ∧ g = i ∧ S u i ≤ r ∧ r < S u (i + 1))

/-- The state of the descent: 'a' the step's exponent plus one (0: the step is 0). -/
def Down (u : Nat → Int) (n : Nat) (r0 : Int) (i : Nat) (r : Int) (a : Nat) : Prop :=
  i ≤ n ∧ (∃ q, i = 2 ^ a * q) ∧ r = r0 - S u i ∧ 0 ≤ r ∧ (i + 2 ^ a ≤ n → r0 < S u (i + 2 ^ a))

theorem down_start {u : Nat → Int} {n : Nat} {r0 : Int} (h0 : 0 ≤ r0) (a : Nat) (ha : n < 2 ^ a) : Down u n r0 0 r0 a :=
  ⟨Nat.zero_le _, ⟨0, by simp⟩, by simp [S], h0, fun h => by omega⟩

theorem down_lb {u : Nat → Int} {n : Nat} {r0 : Int} {i : Nat} {r : Int} {a : Nat} (h : Down u n r0 i r (a + 1)) : T u (i + 2 ^ a) = S u (i + 2 ^ a) - S u i := by
  obtain ⟨_, ⟨q, rfl⟩, _⟩ := h
  unfold T
  rw [lb_add]
  congr 2
  omega

theorem down_take {u : Nat → Int} {n : Nat} {r0 : Int} {i : Nat} {r : Int} {a : Nat} (h : Down u n r0 i r (a + 1)) (hj : i + 2 ^ a ≤ n) (hw : T u (i + 2 ^ a) ≤ r) : Down u n r0 (i + 2 ^ a) (r - T u (i + 2 ^ a)) a := by
  have hl := down_lb h
  obtain ⟨h1, ⟨q, h2⟩, h3, h4, h5⟩ := h
  have hp : 2 ^ (a + 1) = 2 ^ a + 2 ^ a := by rw [Nat.pow_succ]; omega
  refine ⟨hj, ⟨2 * q + 1, ?_⟩, by omega, by omega, fun h => ?_⟩
  · rw [h2, Nat.mul_add, Nat.pow_succ]; simp [Nat.mul_assoc]
  · have e : i + 2 ^ a + 2 ^ a = i + 2 ^ (a + 1) := by omega
    rw [e] at h ⊢
    exact h5 h

theorem down_leave {u : Nat → Int} {n : Nat} {r0 : Int} {i : Nat} {r : Int} {a : Nat} (h : Down u n r0 i r (a + 1)) (hj : i + 2 ^ a ≤ n → r < T u (i + 2 ^ a)) : Down u n r0 i r a := by
  have hl := down_lb h
  obtain ⟨h1, ⟨q, h2⟩, h3, h4, h5⟩ := h
  refine ⟨h1, ⟨2 * q, ?_⟩, h3, h4, fun h => ?_⟩
  · rw [h2, Nat.pow_succ, Nat.mul_assoc]
  · have := hj h; omega

theorem down_end {u : Nat → Int} {n : Nat} {r0 : Int} {i : Nat} {r : Int} (h : Down u n r0 i r 0) (hn : r0 < S u n) (h0 : 0 ≤ r0) : Found u n r0 i := by
  obtain ⟨h1, _, h3, h4, h5⟩ := h
  have hi : i ≠ n := by intro e; subst e; omega
  exact .inr ⟨h0, hn, i, by omega, rfl, by omega, by have := h5 (by simp; omega); simpa using this⟩

/-! ### 'next' and 'prev' -/
def Next (u : Nat → Int) (n : Nat) (x g : Int) : Prop :=
  (g = -1 ∧ ∀ e : Nat, e < n → x ≤ e → u e = 0) ∨ ∃ i : Nat, i < n ∧ g = i ∧ x ≤ i ∧ 0 < u i ∧ ∀ e : Nat, e < i → x ≤ e → u e = 0
def Prev (u : Nat → Int) (n : Nat) (x g : Int) : Prop :=
  (g = -1 ∧ ∀ e : Nat, e < n → (e : Int) ≤ x → u e = 0) ∨ ∃ i : Nat, i < n ∧ g = i ∧ (i : Int) ≤ x ∧ 0 < u i ∧ ∀ e : Nat, i < e → e < n → (e : Int) ≤ x → u e = 0

theorem S_strict {u : Nat → Int} (hu : ∀ e, 0 ≤ u e) {a e b : Nat} (h1 : a ≤ e) (h2 : e < b) (h : S u b ≤ S u a) : u e = 0 := by
  have g1 := S_mono hu a e h1
  have g2 := S_mono hu (e + 1) b h2
  have g3 : S u (e + 1) = S u e + u e := rfl
  have := hu e
  omega

theorem next_none {u : Nat → Int} {n : Nat} {x : Int} (hx : (n : Int) ≤ x) : Next u n x (-1) :=
  .inl ⟨rfl, fun e h1 h2 => by omega⟩

theorem next_of {u : Nat → Int} (hu : ∀ e, 0 ≤ u e) {n : Nat} {x g : Int} (h : Found u n (S u x.toNat) g) : Next u n x g := by
  have hS := S_nonneg hu x.toNat
  rcases h with ⟨h1, h2⟩ | ⟨_, h2, i, hi, hg, h3, h4⟩
  · refine .inl ⟨h2, fun e he hxe => ?_⟩
    exact S_strict hu (a := x.toNat) (b := n) (by omega) he (by omega)
  · refine .inr ⟨i, hi, hg, ?_, ?_, fun e he hxe => ?_⟩
    · rcases Int.lt_or_le (i : Int) x with hlt | hle
      · have := S_mono hu (i + 1) x.toNat (by omega); omega
      · exact hle
    · have : S u (i + 1) = S u i + u i := rfl
      omega
    · exact S_strict hu (a := x.toNat) (b := i) (by omega) he h3

theorem prev_of {u : Nat → Int} (hu : ∀ e, 0 ≤ u e) {n : Nat} {x g : Int} (hx : x < n) (h : Found u n (S u (x + 1).toNat - 1) g) : Prev u n x g := by
  have hS := S_nonneg hu (x + 1).toNat
  have hSn := S_mono hu (x + 1).toNat n (by omega)
  rcases h with ⟨h1, h2⟩ | ⟨_, h2, i, hi, hg, h3, h4⟩
  · refine .inl ⟨h2, fun e he hxe => ?_⟩
    exact S_strict hu (a := 0) (b := (x + 1).toNat) (Nat.zero_le _) (by omega) (by show _ ≤ (0 : Int); omega)
  · refine .inr ⟨i, hi, hg, ?_, ?_, fun e he hen hxe => ?_⟩
    · rcases Int.lt_or_le x (i : Int) with hlt | hle
      · have := S_mono hu (x + 1).toNat i (by omega); omega
      · exact hle
    · have : S u (i + 1) = S u i + u i := rfl
      omega
    · exact S_strict hu (a := i + 1) (b := (x + 1).toNat) (by omega) (by omega) (by omega)

theorem next_unique {u : Nat → Int} {n : Nat} {x g g' : Int} (h : Next u n x g) (h' : Next u n x g') : g = g' := by
  rcases h with ⟨h1, h2⟩ | ⟨i, hi, h1, h2, h3, h4⟩ <;> rcases h' with ⟨k1, k2⟩ | ⟨i', hi', k1, k2, k3, k4⟩
  · omega
  · have := h2 i' hi' k2; omega
  · have := k2 i hi h2; omega
  · rcases Nat.lt_trichotomy i i' with h | h | h
    · have := k4 i h h2; omega
    · omega
    · have := h4 i' h k2; omega

theorem prev_unique {u : Nat → Int} {n : Nat} {x g g' : Int} (h : Prev u n x g) (h' : Prev u n x g') : g = g' := by
  rcases h with ⟨h1, h2⟩ | ⟨i, hi, h1, h2, h3, h4⟩ <;> rcases h' with ⟨k1, k2⟩ | ⟨i', hi', k1, k2, k3, k4⟩
  · omega
  · have := h2 i' hi' k2; omega
  · have := k2 i hi h2; omega
  · rcases Nat.lt_trichotomy i i' with h | h | h
    · have := h4 i' h hi' k2; omega
    · omega
    · have := k4 i h hi h2; omega

end Go.Proofs.Qxb6615931a.Fen
