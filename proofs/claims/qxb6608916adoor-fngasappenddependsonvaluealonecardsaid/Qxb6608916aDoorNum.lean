/- THE PLAIN LAWS of the gas seat: no Go in sight. -/
namespace Go.Proofs.Qxb6608916aDoor
set_option linter.unusedVariables false

/-- The value of the first k decimal digits of a row of bytes. -/
def val (x : Nat → Int) : Nat → Int
  | 0 => 0
  | k + 1 => val x k * 10 + (x k - 48)

theorem val_nonneg (x : Nat → Int) : ∀ k, (∀ i, i < k → 48 ≤ x i ∧ x i ≤ 57) → 0 ≤ val x k
  | 0, _ => by simp [val]
  | k + 1, h => by
    have h1 := val_nonneg x k (fun i hi => h i (by omega))
    have h2 := h k (by omega)
    simp only [val]; omega

theorem val_mono (x : Nat → Int) (k : Nat) (h : ∀ i, i < k → 48 ≤ x i ∧ x i ≤ 57) : ∀ j, j ≤ k → val x j ≤ val x k := by
  induction k with
  | zero => intro j hj; obtain rfl : j = 0 := by omega
            exact Int.le_refl _
  | succ k ih =>
    intro j hj
    by_cases e : j = k + 1
    · subst e; exact Int.le_refl _
    · have h1 := ih (fun i hi => h i (by omega)) j (by omega)
      have h2 := h k (by omega)
      have h3 := val_nonneg x k (fun i hi => h i (by omega))
      simp only [val]; omega

theorem val_congr (x y : Nat → Int) : ∀ k, (∀ i, i < k → x i = y i) → val x k = val y k
  | 0, _ => rfl
  | k + 1, h => by simp only [val]; rw [val_congr x y k (fun i hi => h i (by omega)), h k (by omega)]

theorem val_lt (x : Nat → Int) : ∀ k, (∀ i, i < k → 48 ≤ x i ∧ x i ≤ 57) → val x k < 10 ^ k
  | 0, _ => by simp [val]
  | k + 1, h => by
    have h1 := val_lt x k (fun i hi => h i (by omega))
    have h2 := h k (by omega)
    simp only [val]
    rw [Int.pow_succ]; omega

theorem val_le999 (x : Nat → Int) (m : Nat) (hm : m ≤ 3) (h : ∀ i, i < m → 48 ≤ x i ∧ x i ≤ 57) : 0 ≤ val x m ∧ val x m ≤ 999 ∧ val x m * 10 ^ (3 - m) ≤ 999 := by
  have h0 := val_nonneg x m h
  have h1 := val_lt x m h
  have : m = 0 ∨ m = 1 ∨ m = 2 ∨ m = 3 := by omega
  rcases this with rfl | rfl | rfl | rfl <;> simp at * <;> omega

/-- n/per in thousandths, rounded half up: the whole part's and the fraction's numbers. -/
def gk (n per : Int) : Int := if per - (n % per * 1000) % per ≤ (n % per * 1000) % per then n % per * 1000 / per + 1 else n % per * 1000 / per
def gW (n per : Int) : Int := if gk n per = 1000 then n / per + 1 else n / per
def gF (n per : Int) : Int := if gk n per = 1000 then 0 else gk n per

/-- What is known of the rounding, in plain numbers: q, r the quotient and the rest; k the thousandths. -/
theorem gk_facts (n per : Int) (hp : 0 < per) : 0 ≤ n % per ∧ n % per < per ∧ 0 ≤ gk n per ∧ gk n per ≤ 1000 ∧ -per < 2 * (gk n per * per - 1000 * (n % per)) ∧ 2 * (gk n per * per - 1000 * (n % per)) ≤ per := by
  have r0 := Int.emod_nonneg n (show per ≠ 0 by omega)
  have r1 := Int.emod_lt_of_pos n hp
  have hdm := Int.mul_ediv_add_emod (n % per * 1000) per
  have l0 := Int.emod_nonneg (n % per * 1000) (show per ≠ 0 by omega)
  have l1 := Int.emod_lt_of_pos (n % per * 1000) hp
  have q0 : 0 ≤ n % per * 1000 / per := Int.ediv_nonneg (by omega) (by omega)
  have q1 : n % per * 1000 / per < 1000 := Int.ediv_lt_of_lt_mul hp (by
    have : n % per * 1000 < per * 1000 := by omega
    rw [Int.mul_comm 1000 per]; exact this)
  unfold gk
  generalize n % per = r at *
  generalize r * 1000 / per = q at *
  generalize r * 1000 % per = l at *
  rw [Int.mul_comm per q] at hdm
  generalize hqp : q * per = qp at *
  split
  · rw [show (q + 1) * per = qp + per from by rw [Int.add_mul, hqp, Int.one_mul]]; omega
  · rw [hqp]; omega

theorem gF_bd (n per : Int) (hp : 0 < per) : 0 ≤ gF n per ∧ gF n per ≤ 999 := by
  have := gk_facts n per hp
  unfold gF; split <;> omega

/-- The greatest whole part does not pass what the quotient may be, plus one. -/
theorem gW_bd (n per : Int) (hn : 0 ≤ n) (hn2 : n ≤ 9223372036854775807) (hp : 0 < per) : 0 ≤ gW n per ∧ gW n per ≤ 9223372036854775807 := by
  have h0 : 0 ≤ n / per := Int.ediv_nonneg hn (by omega)
  unfold gW
  by_cases h1 : per = 1
  · subst h1
    have : gk n 1 = 0 := by unfold gk; simp [Int.emod_one]
    rw [this]; simp; omega
  · have h2 : n / per ≤ n / 2 := by
      have : per * (n / per) ≤ n := Int.mul_ediv_self_le (by omega)
      have h3 : 2 * (n / per) ≤ per * (n / per) := Int.mul_le_mul_of_nonneg_right (by omega) h0
      omega
    split <;> omega

/-- More whole gas: the same fraction, the whole part greater by as much. -/
theorem gk_shift (n per w : Int) : gk (n + w * per) per = gk n per := by
  unfold gk; rw [Int.add_mul_emod_self_right]
theorem gF_shift (n per w : Int) : gF (n + w * per) per = gF n per := by unfold gF; rw [gk_shift]
theorem gW_shift (n per w : Int) (hp : 0 < per) : gW (n + w * per) per = gW n per + w := by
  unfold gW; rw [gk_shift, Int.add_mul_ediv_right _ _ (show per ≠ 0 by omega)]; split <;> omega

/-- One value, one rounding. -/
theorem gk_scale (n per k : Int) (hp : 0 < per) (hk : 0 < k) : gk (n * k) (per * k) = gk n per := by
  have e1 : n * k % (per * k) = n % per * k := by rw [Int.mul_comm n k, Int.mul_comm per k, Int.mul_emod_mul_of_pos _ _ hk, Int.mul_comm]
  have e2 : n % per * k * 1000 / (per * k) = n % per * 1000 / per := by
    rw [show n % per * k * 1000 = k * (n % per * 1000) from by rw [Int.mul_assoc, Int.mul_comm k 1000, ← Int.mul_assoc, Int.mul_comm], Int.mul_comm per k, Int.mul_ediv_mul_of_pos _ _ hk]
  have e3 : n % per * k * 1000 % (per * k) = n % per * 1000 % per * k := by
    rw [show n % per * k * 1000 = k * (n % per * 1000) from by rw [Int.mul_assoc, Int.mul_comm k 1000, ← Int.mul_assoc, Int.mul_comm], Int.mul_comm per k, Int.mul_emod_mul_of_pos _ _ hk, Int.mul_comm]
  unfold gk
  rw [e1, e2, e3]
  generalize n % per * 1000 % per = l
  have : (per * k - l * k ≤ l * k) ↔ (per - l ≤ l) := by
    rw [← Int.sub_mul]
    exact ⟨fun h => Int.le_of_mul_le_mul_right h hk, fun h => Int.mul_le_mul_of_nonneg_right h (by omega)⟩
  by_cases h : per - l ≤ l
  · rw [if_pos (this.2 h), if_pos h]
  · rw [if_neg (fun h' => h (this.1 h')), if_neg h]
theorem gF_scale (n per k : Int) (hp : 0 < per) (hk : 0 < k) : gF (n * k) (per * k) = gF n per := by unfold gF; rw [gk_scale n per k hp hk]
theorem gW_scale (n per k : Int) (hp : 0 < per) (hk : 0 < k) : gW (n * k) (per * k) = gW n per := by
  unfold gW; rw [gk_scale n per k hp hk, Int.mul_ediv_mul_of_pos_left _ _ hk]

/-- The fraction's text, by the number of rounds gone: the unit, what is left, the digits written. -/
def unitAt : Nat → Int | 0 => 100 | 1 => 10 | 2 => 1 | _ => 0
def fracAt (F : Int) : Nat → Int | 0 => F | 1 => F % 100 | 2 => F % 100 % 10 | _ => 0
def digsAt (F : Int) : Nat → List Int | 0 => [] | 1 => [48 + F / 100] | 2 => [48 + F / 100, 48 + F % 100 / 10] | _ => [48 + F / 100, 48 + F % 100 / 10, 48 + F % 100 % 10]
/-- How many digits the fraction takes. -/
def flen (F : Int) : Nat := if F = 0 then 0 else if F % 100 = 0 then 1 else if F % 100 % 10 = 0 then 2 else 3
/-- The fraction's bytes: none, or a point and the digits. -/
def fbytes (F : Int) : List Int := if F = 0 then [] else 46 :: digsAt F (flen F)

theorem fbytes_at (F : Int) (j : Nat) (hF : ¬ F = 0) (hj : j ≤ 3) (hz : fracAt F j = 0) (h : j = 0 ∨ fracAt F (j - 1) ≠ 0) : (fbytes F).length = 1 + j ∧ fbytes F = 46 :: digsAt F j := by
  have hj4 : j = 0 ∨ j = 1 ∨ j = 2 ∨ j = 3 := by omega
  rcases hj4 with rfl | rfl | rfl | rfl
  · exact absurd hz hF
  · simp only [fracAt] at hz
    have e : flen F = 1 := by unfold flen; rw [if_neg hF, if_pos hz]
    unfold fbytes; rw [if_neg hF, e]; exact ⟨rfl, rfl⟩
  · have h' : F % 100 ≠ 0 := by rcases h with h | h; · cases h
                                exact h
    simp only [fracAt] at hz
    have e : flen F = 2 := by unfold flen; rw [if_neg hF, if_neg h', if_pos hz]
    unfold fbytes; rw [if_neg hF, e]; exact ⟨rfl, rfl⟩
  · have h' : F % 100 % 10 ≠ 0 := by rcases h with h | h; · cases h
                                     exact h
    have e : flen F = 3 := by unfold flen; rw [if_neg hF, if_neg (by omega), if_neg h']
    unfold fbytes; rw [if_neg hF, e]; exact ⟨rfl, rfl⟩
end Go.Proofs.Qxb6608916aDoor
