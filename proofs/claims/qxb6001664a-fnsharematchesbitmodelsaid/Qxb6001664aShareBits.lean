/- Plain numbers for 'FnShareMatchesBitModel': the lowest set bit. No Go in sight but 'bits'. -/
import Derived.Laws.BitsAllLaws
import Derived.Laws.BitsLemmas
namespace Go.Proofs.Qxb6001664a.ShareBits

/-- l is a power of two. -/
def P2 (l : Nat) : Prop := ∃ j, l = 2 ^ j

theorem P2.one : P2 1 := ⟨0, rfl⟩
theorem P2.two {l : Nat} (h : P2 l) : P2 (2 * l) := by
  obtain ⟨j, rfl⟩ := h
  exact ⟨j + 1, by rw [Nat.pow_succ, Nat.mul_comm]⟩
theorem P2.pos {l : Nat} (h : P2 l) : 1 ≤ l := by
  obtain ⟨j, rfl⟩ := h
  exact Nat.one_le_two_pow

theorem and_compl (K : Nat) : ∀ b, b < 2 ^ K → b &&& (2 ^ K - 1 - b) = 0 := by
  induction K with
  | zero => intro b hb; simp at hb; subst hb; simp
  | succ K ih =>
    intro b hb
    rw [Nat.pow_succ] at hb ⊢
    have h1 := ih (b / 2) (by omega)
    have h2 : (b &&& (2 ^ K * 2 - 1 - b)) / 2 = 0 := by
      rw [← Nat.pow_one 2, Nat.and_div_two_pow, Nat.pow_one]
      rw [show (2 ^ K * 2 - 1 - b) / 2 = 2 ^ K - 1 - b / 2 from by omega]
      exact h1
    have h3 : (b &&& (2 ^ K * 2 - 1 - b)) % 2 = 0 := by
      rw [← Nat.pow_one 2, Nat.and_mod_two_pow, Nat.pow_one]
      rcases Nat.mod_two_eq_zero_or_one b with h | h
      · rw [h]; simp
      · rw [show (2 ^ K * 2 - 1 - b) % 2 = 0 from by omega]; simp
    omega

theorem and_neg_odd (K q : Nat) (h : 2 * q + 1 < 2 ^ K) : (2 * q + 1) &&& (2 ^ K - (2 * q + 1)) = 1 := by
  match K, h with
  | 0, h => simp at h
  | K + 1, h =>
    rw [Nat.pow_succ] at h ⊢
    have h1 := and_compl K q (by omega)
    have h2 : ((2 * q + 1) &&& (2 ^ K * 2 - (2 * q + 1))) / 2 = 0 := by
      rw [← Nat.pow_one 2, Nat.and_div_two_pow, Nat.pow_one]
      rw [show (2 ^ K * 2 - (2 * q + 1)) / 2 = 2 ^ K - 1 - q from by omega, show (2 * q + 1) / 2 = q from by omega]
      exact h1
    have h3 : ((2 * q + 1) &&& (2 ^ K * 2 - (2 * q + 1))) % 2 = 1 := by
      rw [← Nat.pow_one 2, Nat.and_mod_two_pow, Nat.pow_one]
      rw [show (2 * q + 1) % 2 = 1 from by omega, show (2 ^ K * 2 - (2 * q + 1)) % 2 = 1 from by omega]; rfl
    omega

theorem and_neg_pow (j : Nat) : ∀ K q, 2 ^ j * (2 * q + 1) < 2 ^ K → (2 ^ j * (2 * q + 1)) &&& (2 ^ K - 2 ^ j * (2 * q + 1)) = 2 ^ j := by
  induction j with
  | zero => intro K q h; simpa using and_neg_odd K q (by simpa using h)
  | succ j ih =>
    intro K q h
    match K, h with
    | 0, h =>
      exfalso
      have h1 : 1 ≤ 2 ^ (j + 1) := Nat.one_le_two_pow
      have h2 : 1 ≤ 2 ^ (j + 1) * (2 * q + 1) := Nat.mul_pos h1 (by omega)
      simp at h; omega
    | K + 1, h =>
      rw [Nat.pow_succ, Nat.pow_succ, Nat.mul_right_comm] at h
      rw [Nat.pow_succ, Nat.pow_succ, Nat.mul_right_comm]
      have h0 := ih K q (by omega)
      generalize 2 ^ j * (2 * q + 1) = x at *
      have h2 : ((x * 2) &&& (2 ^ K * 2 - x * 2)) / 2 = 2 ^ j := by
        rw [← Nat.pow_one 2, Nat.and_div_two_pow, Nat.pow_one]
        rw [show (2 ^ K * 2 - x * 2) / 2 = 2 ^ K - x from by omega, show (x * 2) / 2 = x from by omega]
        exact h0
      have h3 : ((x * 2) &&& (2 ^ K * 2 - x * 2)) % 2 = 0 := by
        rw [← Nat.pow_one 2, Nat.and_mod_two_pow, Nat.pow_one]
        rw [show (x * 2) % 2 = 0 from by omega]; simp
      omega

/-- 'x & -x' on an int is the power of two that parts x into itself times an odd number. -/
theorem bits_low (l q : Nat) (hl : P2 l) (h : l * (2 * q + 1) < 4611686018427387904) :
    bits .and .i64 ((l * (2 * q + 1) : Nat) : Int) (-((l * (2 * q + 1) : Nat) : Int)) = (l : Int) := by
  obtain ⟨j, rfl⟩ := hl
  have h0 := and_neg_pow j 64 q (by omega)
  have hp : 1 ≤ 2 ^ j := Nat.one_le_two_pow
  have hx : 2 ^ j ≤ 2 ^ j * (2 * q + 1) := Nat.le_mul_of_pos_right _ (by omega)
  generalize 2 ^ j * (2 * q + 1) = x at *
  have h1 : (BitVec.ofInt 64 (x : Int)).toNat = x := by
    rw [BitVec.ofInt_natCast, BitVec.toNat_ofNat]; exact Nat.mod_eq_of_lt (by omega)
  have h2 : (BitVec.ofInt 64 (-(x : Int))).toNat = 2 ^ 64 - x := by
    rw [BitVec.toNat_ofInt]; omega
  show IntKind.i64.wrap ((BitVec.ofInt 64 (x : Int) &&& BitVec.ofInt 64 (-(x : Int))).toNat : Int) = _
  rw [BitVec.toNat_and, h1, h2, h0]
  generalize 2 ^ j = y at *
  rw [IntKind.wrap_i64]
  omega

/-- Every number above 0 is a power of two times an odd one. -/
theorem part (n : Nat) : 0 < n → ∃ l q, P2 l ∧ n = l * (2 * q + 1) := by
  induction n using Nat.strongRecOn with
  | ind n ih =>
    intro h
    rcases Nat.mod_two_eq_zero_or_one n with e | e
    · obtain ⟨l, q, hl, hn⟩ := ih (n / 2) (by omega) (by omega)
      refine ⟨2 * l, q, hl.two, ?_⟩
      rw [Nat.mul_assoc, ← hn]; omega
    · exact ⟨1, n / 2, P2.one, by omega⟩

/-- .. and in one way alone. -/
theorem part_one (i j q r : Nat) (h : 2 ^ i * (2 * q + 1) = 2 ^ j * (2 * r + 1)) : i = j := by
  induction i generalizing j with
  | zero =>
    cases j with
    | zero => rfl
    | succ j => rw [Nat.pow_succ, Nat.mul_right_comm] at h; generalize 2 ^ j * (2 * r + 1) = y at h; simp at h; omega
  | succ i ih =>
    cases j with
    | zero => rw [Nat.pow_succ, Nat.mul_right_comm] at h; generalize 2 ^ i * (2 * q + 1) = y at h; simp at h; omega
    | succ j =>
      rw [Nat.pow_succ, Nat.pow_succ, Nat.mul_right_comm, Nat.mul_right_comm (2 ^ j)] at h
      rw [ih j (by omega)]

theorem part_eq {a b q r : Nat} (ha : P2 a) (hb : P2 b) (h : a * (2 * q + 1) = b * (2 * r + 1)) : a = b := by
  obtain ⟨i, rfl⟩ := ha
  obtain ⟨j, rfl⟩ := hb
  rw [part_one i j q r h]

/-- Loop 1's end: l divides n, 2l does not (or l is n). -/
theorem low_eq {a b q n : Nat} (ha : P2 a) (hb : P2 b) (h : n = a * (2 * q + 1)) (hd : n % b = 0) (hn : n % (2 * b) ≠ 0) : b = a := by
  have hb1 := hb.pos
  have e : n = b * (n / b) := by have := Nat.div_add_mod n b; omega
  generalize n / b = k at e
  have hk : k % 2 = 1 := by
    rcases Nat.mod_two_eq_zero_or_one k with h2 | h2
    · exfalso; apply hn
      rw [e, show k = 2 * (k / 2) from by omega, ← Nat.mul_assoc, Nat.mul_comm b 2]
      exact Nat.mul_mod_right _ _
    · exact h2
  refine (part_eq ha hb (q := q) (r := k / 2) ?_).symm
  rw [← h, e, show 2 * (k / 2) + 1 = k from by omega]

end Go.Proofs.Qxb6001664a.ShareBits
