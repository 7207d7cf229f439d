/-
  The plain law of stolenShare: float division of two whole numbers up to 2^53 follows the exact quotient. No Go in sight: Ieee's words alone.
-/
import Ieee.Arith
namespace Go.Proofs.Qxb6617761a.Plain
open Ieee

/-- 'a / b' to the nearest whole number, ties to even. -/
def rne (a b : Nat) : Nat := a / b + (decide (b < 2 * (a % b)) || (b == 2 * (a % b) && (a / b) % 2 == 1)).toNat

theorem rne_le (a b : Nat) : a / b ≤ rne a b ∧ rne a b ≤ a / b + 1 := by
  unfold rne
  cases (decide (b < 2 * (a % b)) || (b == 2 * (a % b) && (a / b) % 2 == 1)) <;> simp

theorem rne_mono {a b c d : Nat} (hb : 0 < b) (hd : 0 < d) (h : a * d ≤ c * b) : rne a b ≤ rne c d := by
  have ea : b * (a / b) + a % b = a := Nat.div_add_mod a b
  have ec : d * (c / d) + c % d = c := Nat.div_add_mod c d
  have la : a % b < b := Nat.mod_lt _ hb
  have lc : c % d < d := Nat.mod_lt _ hd
  have ra := rne_le a b
  have rc := rne_le c d
  have hq : a / b ≤ c / d := by
    rw [Nat.le_div_iff_mul_le hd]
    have h1 : a / b * d * b ≤ c * b := by
      calc a / b * d * b = (b * (a / b)) * d := by rw [Nat.mul_right_comm, Nat.mul_comm (a / b) b]
        _ ≤ a * d := Nat.mul_le_mul_right _ (by omega)
        _ ≤ c * b := h
    exact Nat.le_of_mul_le_mul_right h1 hb
  by_cases hlt : a / b < c / d
  · omega
  · have he : a / b = c / d := by omega
    have hr : a % b * d ≤ c % d * b := by
      have h2 : (b * (a / b) + a % b) * d ≤ (d * (c / d) + c % d) * b := by rw [ea, ec]; exact h
      rw [Nat.add_mul, Nat.add_mul, he] at h2
      have h3 : b * (c / d) * d = d * (c / d) * b := by
        rw [Nat.mul_comm b, Nat.mul_comm d, Nat.mul_right_comm]
      omega
    unfold rne
    rw [he]
    generalize a % b = r at *
    generalize c % d = s at *
    generalize c / d = q at *
    apply Nat.add_le_add_left
    cases hx : (decide (b < 2 * r) || (b == 2 * r && q % 2 == 1)) with
    | false => simp
    | true =>
      have hy : (decide (d < 2 * s) || (d == 2 * s && q % 2 == 1)) = true := by
        simp only [Bool.or_eq_true, decide_eq_true_eq, Bool.and_eq_true, beq_iff_eq] at hx ⊢
        rcases hx with hx | ⟨hx, ho⟩
        · left
          have h4 : b * d < (2 * s) * b := by
            calc b * d < (2 * r) * d := Nat.mul_lt_mul_of_pos_right hx hd
              _ = 2 * (r * d) := Nat.mul_assoc ..
              _ ≤ 2 * (s * b) := Nat.mul_le_mul_left _ hr
              _ = (2 * s) * b := (Nat.mul_assoc ..).symm
          rw [Nat.mul_comm b d] at h4
          exact Nat.lt_of_mul_lt_mul_right h4
        · have h4 : d * b ≤ (2 * s) * b := by
            calc d * b = (2 * r) * d := by rw [← hx, Nat.mul_comm]
              _ = 2 * (r * d) := Nat.mul_assoc ..
              _ ≤ 2 * (s * b) := Nat.mul_le_mul_left _ hr
              _ = (2 * s) * b := (Nat.mul_assoc ..).symm
          have h5 := Nat.le_of_mul_le_mul_right h4 hb
          by_cases h6 : d < 2 * s
          · left; exact h6
          · right; exact ⟨by omega, ho⟩
      rw [hy]; simp

/-- The sticky digit serves: rounding '2 * (D / n) + sticky' over an even number of half units is rounding 'D / n' itself. -/
theorem rne_sticky (D n h : Nat) (hn : 0 < n) (hh : 0 < h) :
    rne (2 * (D / n) + (D % n != 0).toNat) (2 * (2 * h)) = rne D (n * (2 * h)) := by
  have lt : D % n < n := Nat.mod_lt _ hn
  have hH : 0 < 2 * h := by omega
  have hs : (D % n != 0).toNat < 2 := by cases (D % n != 0) <;> simp
  have hd1 : (2 * (D / n) + (D % n != 0).toNat) / (2 * (2 * h)) = D / n / (2 * h) := by
    rw [← Nat.div_div_eq_div_mul]
    congr 1
    omega
  have hm1 : (2 * (D / n) + (D % n != 0).toNat) % (2 * (2 * h)) = 2 * (D / n % (2 * h)) + (D % n != 0).toNat := by
    rw [Nat.mod_mul]
    have e1 : (2 * (D / n) + (D % n != 0).toNat) % 2 = (D % n != 0).toNat := by omega
    have e2 : (2 * (D / n) + (D % n != 0).toNat) / 2 = D / n := by omega
    rw [e1, e2]; omega
  have hd2 : D / (n * (2 * h)) = D / n / (2 * h) := (Nat.div_div_eq_div_mul ..).symm
  have hm2 : D % (n * (2 * h)) = D % n + n * (D / n % (2 * h)) := Nat.mod_mul
  unfold rne
  rw [hd1, hm1, hd2, hm2]
  generalize D / n % (2 * h) = c at *
  generalize D / n / (2 * h) = q at *
  generalize D % n = t at *
  have hc : (decide (2 * (2 * h) < 2 * (2 * c + (t != 0).toNat)) || (2 * (2 * h) == 2 * (2 * c + (t != 0).toNat) && q % 2 == 1)) = (decide (n * (2 * h) < 2 * (t + n * c)) || (n * (2 * h) == 2 * (t + n * c) && q % 2 == 1)) := by
    have hx : n * (2 * h) = 2 * (n * h) := by rw [Nat.mul_left_comm]
    rw [hx]
    rcases Nat.lt_trichotomy h c with hlt | heq | hgt
    · have h1 : n * h < n * c := Nat.mul_lt_mul_of_pos_left hlt hn
      have a1 : decide (2 * (2 * h) < 2 * (2 * c + (t != 0).toNat)) = true := by simp; omega
      have a2 : decide (2 * (n * h) < 2 * (t + n * c)) = true := by simp; omega
      rw [a1, a2]; simp
    · subst heq
      by_cases ht : t = 0
      · subst ht; simp
      · have e1 : (t != 0) = true := by simp [ht]
        have a1 : decide (2 * (2 * h) < 2 * (2 * h + (t != 0).toNat)) = true := by rw [e1]; simp
        have a2 : decide (2 * (n * h) < 2 * (t + n * h)) = true := by simp; omega
        rw [a1, a2]; simp
    · have h1 : n * (c + 1) ≤ n * h := Nat.mul_le_mul_left _ hgt
      rw [Nat.mul_add, Nat.mul_one] at h1
      have a1 : decide (2 * (2 * h) < 2 * (2 * c + (t != 0).toNat)) = false := by simp; omega
      have a2 : decide (2 * (n * h) < 2 * (t + n * c)) = false := by simp; omega
      have a3 : (2 * (2 * h) == 2 * (2 * c + (t != 0).toNat)) = false := by simp only [beq_eq_false_iff_ne, ne_eq]; omega
      have a4 : (2 * (n * h) == 2 * (t + n * c)) = false := by simp only [beq_eq_false_iff_ne, ne_eq]; omega
      rw [a1, a2, a3, a4]
  rw [hc]

theorem cut_even (neg : Bool) (n drop : Nat) (h : drop ≤ n.log2 + 2) : Toward.even.cut neg n drop = rne n (2 ^ drop) := by
  unfold Toward.cut rne
  have e : min drop (n.log2 + 2) = drop := by omega
  simp only [e, Nat.shiftLeft_eq, Nat.one_mul]

theorem log2_eq {n k : Nat} (h1 : 2 ^ k ≤ n) (h2 : n < 2 ^ (k + 1)) : n.log2 = k := by
  have h0 : n ≠ 0 := by have := Nat.two_pow_pos k; omega
  rw [Nat.log2_eq_iff h0]; exact ⟨h1, h2⟩

/-- A rung of a normal number, read. -/
theorem read_rung (e kept : Nat) (h1 : 4503599627370496 ≤ kept) (h2 : kept < 9007199254740992) (he : e ≤ 2000) :
    double.read (e * 4503599627370496 + kept) = .number false kept (-1074 + e) := by
  have hsw : double.signWeight = 9223372036854775808 := by decide
  have hbin : double.binade = 4503599627370496 := by decide
  have hinf : double.infRung = 9218868437227405312 := by decide
  have hlp : double.leastPlace = -1074 := by decide
  unfold Format.read
  rw [hsw, hbin, hinf, hlp]
  generalize hr : e * 4503599627370496 + kept = r
  have b1 : 4503599627370496 ≤ r := by omega
  have b2 : r < 9218868437227405312 := by omega
  have d0 : r / 9223372036854775808 = 0 := by omega
  have m0 : r % 9223372036854775808 = r := by omega
  have dm : r / 4503599627370496 = e + 1 := by omega
  have mm : 4503599627370496 + r % 4503599627370496 = kept := by omega
  simp only [d0, m0, dm, mm]
  rw [if_neg (by omega), if_pos b2]
  simp

theorem kept_bounds (a : Nat) (h0 : 0 < a) : 4503599627370496 ≤ rne (a * 2 ^ (52 - a.log2)) (2 ^ (a.log2 - 52)) ∧ rne (a * 2 ^ (52 - a.log2)) (2 ^ (a.log2 - 52)) ≤ 9007199254740992 := by
  have l1 : 2 ^ a.log2 ≤ a := Nat.log2_self_le (by omega)
  have l2 : a < 2 ^ (a.log2 + 1) := Nat.lt_log2_self
  have hr := rne_le (a * 2 ^ (52 - a.log2)) (2 ^ (a.log2 - 52))
  have k1 : 4503599627370496 * 2 ^ (a.log2 - 52) ≤ a * 2 ^ (52 - a.log2) := by
    have : 4503599627370496 * 2 ^ (a.log2 - 52) = 2 ^ a.log2 * 2 ^ (52 - a.log2) := by
      rw [show 4503599627370496 = 2 ^ 52 from by decide, ← Nat.pow_add, ← Nat.pow_add, show 52 + (a.log2 - 52) = a.log2 + (52 - a.log2) from by omega]
    rw [this]; exact Nat.mul_le_mul_right _ l1
  have k2 : a * 2 ^ (52 - a.log2) < 9007199254740992 * 2 ^ (a.log2 - 52) := by
    have : 9007199254740992 * 2 ^ (a.log2 - 52) = 2 ^ (a.log2 + 1) * 2 ^ (52 - a.log2) := by
      rw [show 9007199254740992 = 2 ^ 53 from by decide, ← Nat.pow_add, ← Nat.pow_add, show 53 + (a.log2 - 52) = a.log2 + 1 + (52 - a.log2) from by omega]
    rw [this]; exact Nat.mul_lt_mul_of_pos_right l2 (Nat.two_pow_pos _)
  have k3 := (Nat.le_div_iff_mul_le (Nat.two_pow_pos (a.log2 - 52))).2 k1
  have k4 := (Nat.div_lt_iff_lt_mul (Nat.two_pow_pos (a.log2 - 52))).2 k2
  omega

theorem nearest_form (a : Nat) (h0 : 0 < a) (hl : a.log2 < 64) :
    double.nearest false a 0 = (a.log2 + 1022) * 4503599627370496 + rne (a * 2 ^ (52 - a.log2)) (2 ^ (a.log2 - 52)) := by
  have hbin : double.binade = 4503599627370496 := by decide
  have hinf : double.infRung = 9218868437227405312 := by decide
  have hlp : double.leastPlace = -1074 := by decide
  have hfr : (double.fractionBits : Int) = 52 := by decide
  have hb := kept_bounds a h0
  unfold Format.nearest
  rw [if_neg (by omega)]
  simp only [hbin, hinf, hlp, hfr, Format.word, Nat.shiftLeft_eq]
  have e1 : max (0 + (a.log2 : Int) - 52) (-1074) = (a.log2 : Int) - 52 := Int.max_eq_left (by omega) |>.trans (by omega)
  rw [e1]
  have e2 : (0 - ((a.log2 : Int) - 52)).toNat = 52 - a.log2 := by omega
  have e3 : ((a.log2 : Int) - 52 - 0).toNat = a.log2 - 52 := by omega
  have e4 : ((a.log2 : Int) - 52 - -1074).toNat = a.log2 + 1022 := by omega
  rw [e2, e3, e4, cut_even]
  · simp only [Bool.false_eq_true, if_false]
    exact Nat.min_eq_left (by omega)
  · by_cases h : a.log2 ≤ 52
    · omega
    · have : 52 - a.log2 = 0 := by omega
      rw [this]; simp; omega

theorem rne_one (n : Nat) : rne n 1 = n := by
  unfold rne; simp [Nat.mod_one]

/-- A whole number below 2^64, made a float: a positive number of the format. -/
theorem read_any (a : Nat) (h0 : 0 < a) (h : a < 18446744073709551616) : ∃ m i, 0 < m ∧ double.read (double.nearest false a 0) = .number false m i := by
  have hl : a.log2 < 64 := by
    rw [Nat.log2_lt (by omega)]; exact h
  have hb := kept_bounds a h0
  rw [nearest_form a h0 hl]
  generalize rne (a * 2 ^ (52 - a.log2)) (2 ^ (a.log2 - 52)) = k at *
  by_cases hk : k = 9007199254740992
  · refine ⟨4503599627370496, -1074 + ((a.log2 + 1023 : Nat) : Int), by omega, ?_⟩
    rw [← read_rung (a.log2 + 1023) 4503599627370496 (by omega) (by omega) (by omega)]
    rw [show (a.log2 + 1022) * 4503599627370496 + k = (a.log2 + 1023) * 4503599627370496 + 4503599627370496 from by omega]
  · exact ⟨k, _, by omega, read_rung (a.log2 + 1022) k (by omega) (by omega) (by omega)⟩

theorem read_exact (a : Nat) (h0 : 0 < a) (h : a ≤ 9007199254740992) : ∃ m L : Nat, 4503599627370496 ≤ m ∧ m < 9007199254740992 ∧ L ≤ 53 ∧ m * 2 ^ L = a * 4503599627370496 ∧ double.read (double.nearest false a 0) = .number false m ((L : Int) - 52) := by
  by_cases hx : a = 9007199254740992
  · subst hx
    exact ⟨4503599627370496, 53, by omega, by omega, by omega, by decide, by decide +kernel⟩
  · have l1 : 2 ^ a.log2 ≤ a := Nat.log2_self_le (by omega)
    have l2 : a < 2 ^ (a.log2 + 1) := Nat.lt_log2_self
    have hl : a.log2 < 53 := by
      rw [Nat.log2_lt (by omega)]; show a < 9007199254740992; omega
    have e0 : a.log2 - 52 = 0 := by omega
    have k1 : 4503599627370496 ≤ a * 2 ^ (52 - a.log2) := by
      have : 4503599627370496 = 2 ^ a.log2 * 2 ^ (52 - a.log2) := by
        rw [← Nat.pow_add, show a.log2 + (52 - a.log2) = 52 from by omega]
      rw [this]; exact Nat.mul_le_mul_right _ l1
    have k2 : a * 2 ^ (52 - a.log2) < 9007199254740992 := by
      have : 9007199254740992 = 2 ^ (a.log2 + 1) * 2 ^ (52 - a.log2) := by
        rw [← Nat.pow_add, show a.log2 + 1 + (52 - a.log2) = 53 from by omega]
      rw [this]; exact Nat.mul_lt_mul_of_pos_right l2 (Nat.two_pow_pos _)
    have hk : a * 2 ^ (52 - a.log2) * 2 ^ a.log2 = a * 4503599627370496 := by
      rw [Nat.mul_assoc, ← Nat.pow_add, show 52 - a.log2 + a.log2 = 52 from by omega]
    refine ⟨a * 2 ^ (52 - a.log2), a.log2, k1, k2, by omega, hk, ?_⟩
    rw [nearest_form a h0 (by omega), e0, Nat.pow_zero, rne_one, read_rung _ _ k1 k2 (by omega)]
    rw [show (-1074 + ((a.log2 + 1022 : Nat) : Int)) = (a.log2 : Int) - 52 from by omega]

/-- The scaled numerator and the binade of 'm / n' at 'E'. -/
def top (m n : Nat) : Nat := if n ≤ m then m * 4503599627370496 else m * 9007199254740992
def bin (m n E : Nat) : Nat := if n ≤ m then E + 1 else E
def rung (m n E : Nat) : Nat := bin m n E * 4503599627370496 + rne (top m n) n

theorem div_rung (x y m n : Nat) (i j : Int) (E : Nat) (hm1 : 4503599627370496 ≤ m) (hm2 : m < 9007199254740992) (hn1 : 4503599627370496 ≤ n) (hn2 : n < 9007199254740992)
    (hx : double.read x = .number false m i) (hy : double.read y = .number false n j) (hE : i - j + 1021 = (E : Int)) (hE1 : E ≤ 1500) :
    double.div x y = some (rung m n E) := by
  have hbin : double.binade = 4503599627370496 := by decide
  have hinf : double.infRung = 9218868437227405312 := by decide
  have hlp : double.leastPlace = -1074 := by decide
  have hfr : (double.fractionBits : Int) = 52 := by decide
  have hfn : double.fractionBits + 2 = 54 := by decide
  have lm : m.log2 = 52 := log2_eq hm1 hm2
  have ln : n.log2 = 52 := log2_eq hn1 hn2
  unfold Format.div
  rw [hx, hy, hfn]
  unfold Datum.quotient
  dsimp only
  rw [if_neg (by omega)]
  simp only [lm, ln, Nat.add_sub_cancel, Nat.shiftLeft_eq, Option.map_some, Format.write, Bool.xor_self]
  refine congrArg some ?_
  have hD : m * 2 ^ 54 = m * 18014398509481984 := by rw [show (2 : Nat) ^ 54 = 18014398509481984 from by decide]
  rw [hD]
  have hst : (m * 18014398509481984 % n != 0).toNat < 2 := by cases (m * 18014398509481984 % n != 0) <;> simp
  have hr : rne (top m n) n ≤ 9007199254740992 := by
    have h1 := rne_le (top m n) n
    have h2 : top m n / n < 9007199254740992 := by
      rw [Nat.div_lt_iff_lt_mul (by omega)]
      unfold top; split <;> omega
    omega
  generalize hM : 2 * (m * 18014398509481984 / n) + (m * 18014398509481984 % n != 0).toNat = M at *
  by_cases hc : n ≤ m
  · have q1 : 18014398509481984 ≤ m * 18014398509481984 / n := by
      rw [Nat.le_div_iff_mul_le (by omega)]; omega
    have q2 : m * 18014398509481984 / n < 36028797018963968 := by
      rw [Nat.div_lt_iff_lt_mul (by omega)]; omega
    have lM : M.log2 = 55 := log2_eq (by show 36028797018963968 ≤ M; omega) (by show M < 72057594037927936; omega)
    unfold Format.nearest
    rw [if_neg (by omega)]
    simp only [hbin, hinf, hlp, hfr, Format.word, Nat.shiftLeft_eq, lM]
    have e1 : max (i - j - ((54 : Nat) : Int) - 1 + ((55 : Nat) : Int) - 52) (-1074) = i - j - 52 := Int.max_eq_left (by omega) |>.trans (by omega)
    rw [e1]
    have e2 : (i - j - ((54 : Nat) : Int) - 1 - (i - j - 52)).toNat = 0 := by omega
    have e3 : (i - j - 52 - (i - j - ((54 : Nat) : Int) - 1)).toNat = 3 := by omega
    have e4 : (i - j - 52 - -1074).toNat = E + 1 := by omega
    rw [e2, e3, e4, Nat.pow_zero, Nat.mul_one, cut_even _ _ _ (by omega)]
    have hs : rne M (2 ^ 3) = rne (top m n) n := by
      rw [← hM, show (2 : Nat) ^ 3 = 2 * (2 * 2) from by decide, rne_sticky _ _ _ (by omega) (by omega)]
      unfold top; rw [if_pos hc]
      unfold rne
      have a1 : m * 18014398509481984 / (n * (2 * 2)) = m * 4503599627370496 / n := by
        rw [show m * 18014398509481984 = (m * 4503599627370496) * (2 * 2) from by omega, Nat.mul_div_mul_right _ _ (by omega)]
      have a2 : m * 18014398509481984 % (n * (2 * 2)) = m * 4503599627370496 % n * 4 := by
        rw [show m * 18014398509481984 = (m * 4503599627370496) * (2 * 2) from by omega, Nat.mul_mod_mul_right]
      rw [a1, a2]
      generalize m * 4503599627370496 % n = r
      have b1 : decide (n * (2 * 2) < 2 * (r * 4)) = decide (n < 2 * r) := by simp only [decide_eq_decide]; omega
      have b2 : (n * (2 * 2) == 2 * (r * 4)) = (n == 2 * r) := by rw [Bool.eq_iff_iff]; simp only [beq_iff_eq]; omega
      rw [b1, b2]
    rw [hs]
    unfold rung bin
    rw [if_pos hc]
    simp only [Bool.false_eq_true, if_false]
    exact Nat.min_eq_left (by omega)
  · have q1 : 9007199254740992 ≤ m * 18014398509481984 / n := by
      rw [Nat.le_div_iff_mul_le (by omega)]; omega
    have q2 : m * 18014398509481984 / n < 18014398509481984 := by
      rw [Nat.div_lt_iff_lt_mul (by omega)]; omega
    have lM : M.log2 = 54 := log2_eq (by show 18014398509481984 ≤ M; omega) (by show M < 36028797018963968; omega)
    unfold Format.nearest
    rw [if_neg (by omega)]
    simp only [hbin, hinf, hlp, hfr, Format.word, Nat.shiftLeft_eq, lM]
    have e1 : max (i - j - ((54 : Nat) : Int) - 1 + ((54 : Nat) : Int) - 52) (-1074) = i - j - 53 := Int.max_eq_left (by omega) |>.trans (by omega)
    rw [e1]
    have e2 : (i - j - ((54 : Nat) : Int) - 1 - (i - j - 53)).toNat = 0 := by omega
    have e3 : (i - j - 53 - (i - j - ((54 : Nat) : Int) - 1)).toNat = 2 := by omega
    have e4 : (i - j - 53 - -1074).toNat = E := by omega
    rw [e2, e3, e4, Nat.pow_zero, Nat.mul_one, cut_even _ _ _ (by omega)]
    have hs : rne M (2 ^ 2) = rne (top m n) n := by
      rw [← hM, show (2 : Nat) ^ 2 = 2 * (2 * 1) from by decide, rne_sticky _ _ _ (by omega) (by omega)]
      unfold top; rw [if_neg hc]
      unfold rne
      have a1 : m * 18014398509481984 / (n * (2 * 1)) = m * 9007199254740992 / n := by
        rw [show m * 18014398509481984 = (m * 9007199254740992) * (2 * 1) from by omega, Nat.mul_div_mul_right _ _ (by omega)]
      have a2 : m * 18014398509481984 % (n * (2 * 1)) = m * 9007199254740992 % n * 2 := by
        rw [show m * 18014398509481984 = (m * 9007199254740992) * (2 * 1) from by omega, Nat.mul_mod_mul_right]
      rw [a1, a2]
      generalize m * 9007199254740992 % n = r
      have b1 : decide (n * (2 * 1) < 2 * (r * 2)) = decide (n < 2 * r) := by simp only [decide_eq_decide]; omega
      have b2 : (n * (2 * 1) == 2 * (r * 2)) = (n == 2 * r) := by rw [Bool.eq_iff_iff]; simp only [beq_iff_eq]; omega
      rw [b1, b2]
    rw [hs]
    unfold rung bin
    rw [if_neg hc]
    simp only [Bool.false_eq_true, if_false]
    exact Nat.min_eq_left (by omega)

theorem top_bounds (m n : Nat) (hm1 : 4503599627370496 ≤ m) (hm2 : m < 9007199254740992) (hn1 : 4503599627370496 ≤ n) (hn2 : n < 9007199254740992) :
    4503599627370496 * n ≤ top m n ∧ top m n < 9007199254740992 * n := by
  unfold top; split <;> omega

theorem rung_core {a b c d F G : Nat} (hb : 0 < b) (hd : 0 < d) (a1 : 4503599627370496 * b ≤ a) (a2 : a < 9007199254740992 * b) (c1 : 4503599627370496 * d ≤ c) (c2 : c < 9007199254740992 * d)
    (h : a * d * 2 ^ F ≤ c * b * 2 ^ G) : F * 4503599627370496 + rne a b ≤ G * 4503599627370496 + rne c d := by
  rcases Nat.lt_trichotomy F G with hlt | heq | hgt
  · have r1 := rne_le a b
    have r2 := rne_le c d
    have q1 : a / b < 9007199254740992 := (Nat.div_lt_iff_lt_mul hb).2 a2
    have q2 : 4503599627370496 ≤ c / d := (Nat.le_div_iff_mul_le hd).2 c1
    omega
  · subst heq
    have := rne_mono hb hd (Nat.le_of_mul_le_mul_right h (Nat.two_pow_pos F))
    omega
  · exfalso
    have h1 : c * b * 2 ^ G < a * d * 2 ^ F := by
      calc c * b * 2 ^ G < 9007199254740992 * d * b * 2 ^ G := Nat.mul_lt_mul_of_pos_right (Nat.mul_lt_mul_of_pos_right c2 hb) (Nat.two_pow_pos _)
        _ = 4503599627370496 * b * d * 2 ^ (G + 1) := by
          rw [Nat.pow_succ, show 9007199254740992 * d * b = 4503599627370496 * b * d * 2 from by
            rw [Nat.mul_assoc, Nat.mul_assoc 4503599627370496, Nat.mul_comm d b]; omega]
          rw [Nat.mul_assoc (4503599627370496 * b * d), Nat.mul_comm 2]
        _ ≤ a * d * 2 ^ F := Nat.mul_le_mul (Nat.mul_le_mul_right _ a1) (Nat.pow_le_pow_right (by omega) hgt)
    omega

theorem top_bin (m n E : Nat) : top m n * 2 ^ bin m n E = m * 2 ^ (E + 53) := by
  unfold top bin
  split
  · rw [show E + 53 = 52 + (E + 1) from by omega, Nat.pow_add 2 52, ← Nat.mul_assoc, show (2 : Nat) ^ 52 = 4503599627370496 from by decide]
  · rw [show E + 53 = 53 + E from by omega, Nat.pow_add 2 53, ← Nat.mul_assoc, show (2 : Nat) ^ 53 = 9007199254740992 from by decide]

theorem swap4 (a b c d : Nat) : a * b * (c * d) = a * c * (b * d) := Nat.mul_mul_mul_comm ..

/-- Of two quotients the smaller never has the greater rung. -/
theorem rung_mono {m n E s t M N F u v a b c d : Nat} (hm1 : 4503599627370496 ≤ m) (hm2 : m < 9007199254740992) (hn1 : 4503599627370496 ≤ n) (hn2 : n < 9007199254740992)
    (hM1 : 4503599627370496 ≤ M) (hM2 : M < 9007199254740992) (hN1 : 4503599627370496 ≤ N) (hN2 : N < 9007199254740992)
    (h1 : m * 2 ^ s = a * 4503599627370496) (h2 : n * 2 ^ t = b * 4503599627370496) (h3 : M * 2 ^ u = c * 4503599627370496) (h4 : N * 2 ^ v = d * 4503599627370496)
    (hE : s + 1021 = E + t) (hF : u + 1021 = F + v) (h : a * d ≤ c * b) : rung m n E ≤ rung M N F := by
  have b1 := top_bounds m n hm1 hm2 hn1 hn2
  have b2 := top_bounds M N hM1 hM2 hN1 hN2
  unfold rung
  refine rung_core (by omega) (by omega) b1.1 b1.2 b2.1 b2.2 ?_
  rw [Nat.mul_right_comm (top m n), top_bin, Nat.mul_right_comm (top M N), top_bin]
  have k : (m * 2 ^ s) * (N * 2 ^ v) ≤ (M * 2 ^ u) * (n * 2 ^ t) := by
    rw [h1, h2, h3, h4, swap4, swap4 c]
    exact Nat.mul_le_mul_right _ h
  have p : 0 < 2 ^ (t + v) := Nat.two_pow_pos _
  obtain ⟨K, hK⟩ : ∃ K : Nat, K = 1074 := ⟨_, rfl⟩
  refine Nat.le_of_mul_le_mul_right ?_ p
  have l : m * 2 ^ (E + 53) * N * 2 ^ (t + v) = (m * 2 ^ s) * (N * 2 ^ v) * 2 ^ K := by
    rw [Nat.mul_right_comm m, swap4 m (2 ^ s), Nat.mul_assoc (m * N), Nat.mul_assoc (m * N), ← Nat.pow_add, ← Nat.pow_add, ← Nat.pow_add]
    rw [show E + 53 + (t + v) = s + v + K from by omega]
  have r : M * 2 ^ (F + 53) * n * 2 ^ (t + v) = (M * 2 ^ u) * (n * 2 ^ t) * 2 ^ K := by
    rw [Nat.mul_right_comm M, swap4 M (2 ^ u), Nat.mul_assoc (M * n), Nat.mul_assoc (M * n), ← Nat.pow_add, ← Nat.pow_add, ← Nat.pow_add]
    rw [show F + 53 + (t + v) = u + t + K from by omega]
  rw [l, r]
  exact Nat.mul_le_mul_right _ k

theorem rung_lt (m n E : Nat) (hm1 : 4503599627370496 ≤ m) (hm2 : m < 9007199254740992) (hn1 : 4503599627370496 ≤ n) (hn2 : n < 9007199254740992) (hE : E ≤ 1500) :
    rung m n E < 9218868437227405312 := by
  have b1 := top_bounds m n hm1 hm2 hn1 hn2
  have r1 := rne_le (top m n) n
  have q1 : top m n / n < 9007199254740992 := (Nat.div_lt_iff_lt_mul (by omega)).2 b1.2
  have hb : bin m n E ≤ E + 1 := by unfold bin; split <;> omega
  unfold rung; omega

/-- What 'float64(a) / float64(b)' gives. -/
def share (a b : Nat) : Nat := (double.div (double.nearest false a 0) (double.nearest false b 0)).getD 0

theorem read_zero : double.read (double.nearest false 0 0) = .number false 0 (-1074) := by decide +kernel

/-- The division is valid for every counter and every positive total. -/
theorem share_valid (a b : Nat) (ha : a < 18446744073709551616) (h0 : 0 < b) (hb : b < 18446744073709551616) :
    double.div (double.nearest false a 0) (double.nearest false b 0) = some (share a b) := by
  have hx : ∃ m i, double.read (double.nearest false a 0) = .number false m i := by
    by_cases h : a = 0
    · subst h; exact ⟨_, _, read_zero⟩
    · obtain ⟨m, i, _, hr⟩ := read_any a (by omega) ha; exact ⟨m, i, hr⟩
  obtain ⟨m, i, hr⟩ := hx
  obtain ⟨n, j, hn, hs⟩ := read_any b h0 hb
  have : (double.div (double.nearest false a 0) (double.nearest false b 0)).isSome = true := by
    unfold Format.div
    rw [hr, hs]
    unfold Datum.quotient
    dsimp only
    rw [if_neg (by omega)]
    rfl
  unfold share
  cases h : double.div (double.nearest false a 0) (double.nearest false b 0) with
  | none => rw [h] at this; cases this
  | some r => rfl

theorem share_zero (b : Nat) (h0 : 0 < b) (hb : b < 18446744073709551616) : share 0 b = 0 := by
  obtain ⟨n, j, hn, hs⟩ := read_any b h0 hb
  unfold share Format.div
  rw [read_zero, hs]
  unfold Datum.quotient
  dsimp only
  rw [if_neg (by omega)]
  simp [Format.write, Format.nearest, Format.word]

theorem share_rung (a b : Nat) (ha : 0 < a) (ha2 : a ≤ 9007199254740992) (hb : 0 < b) (hb2 : b ≤ 9007199254740992) :
    ∃ m n E s t, 4503599627370496 ≤ m ∧ m < 9007199254740992 ∧ 4503599627370496 ≤ n ∧ n < 9007199254740992 ∧ m * 2 ^ s = a * 4503599627370496 ∧ n * 2 ^ t = b * 4503599627370496 ∧ s + 1021 = E + t ∧ E ≤ 1500 ∧ share a b = rung m n E := by
  obtain ⟨m, s, m1, m2, hs, e1, r1⟩ := read_exact a ha ha2
  obtain ⟨n, t, n1, n2, ht, e2, r2⟩ := read_exact b hb hb2
  refine ⟨m, n, s + 1021 - t, s, t, m1, m2, n1, n2, e1, e2, by omega, by omega, ?_⟩
  unfold share
  rw [div_rung _ _ m n _ _ (s + 1021 - t) m1 m2 n1 n2 r1 r2 (by omega) (by omega)]
  rfl

theorem share_mono {a b c d : Nat} (ha : a ≤ 9007199254740992) (hb : 0 < b) (hb2 : b ≤ 9007199254740992) (hc : c ≤ 9007199254740992) (hd : 0 < d) (hd2 : d ≤ 9007199254740992)
    (h : a * d ≤ c * b) : share a b ≤ share c d := by
  by_cases h0 : a = 0
  · subst h0; rw [share_zero b hb (by omega)]; exact Nat.zero_le _
  · have hc0 : 0 < c := by
      rcases Nat.eq_zero_or_pos c with h1 | h1
      · subst h1
        have : 0 < a * d := Nat.mul_pos (by omega) hd
        omega
      · exact h1
    obtain ⟨m, n, E, s, t, m1, m2, n1, n2, e1, e2, hE, _, hr⟩ := share_rung a b (by omega) ha hb hb2
    obtain ⟨M, N, F, u, v, M1, M2, N1, N2, f1, f2, hF, _, hR⟩ := share_rung c d hc0 hc hd hd2
    rw [hr, hR]
    exact rung_mono m1 m2 n1 n2 M1 M2 N1 N2 e1 e2 f1 f2 hE hF h

theorem share_lt (a b : Nat) (ha2 : a ≤ 9007199254740992) (hb : 0 < b) (hb2 : b ≤ 9007199254740992) : share a b < 9218868437227405312 := by
  by_cases h0 : a = 0
  · subst h0; rw [share_zero b hb (by omega)]; omega
  · obtain ⟨m, n, E, s, t, m1, m2, n1, n2, e1, e2, hE, h5, hr⟩ := share_rung a b (by omega) ha2 hb hb2
    rw [hr]; exact rung_lt m n E m1 m2 n1 n2 h5

theorem share_least : share 1 9007199254740992 = 4368491638549381120 := by decide +kernel
theorem share_below_one : share 9007199254740991 9007199254740992 = 4607182418800017407 := by decide +kernel
theorem share_one_at : share 1 1 = 4607182418800017408 := by decide +kernel
theorem share_above_one : share 9007199254740992 9007199254740991 = 4607182418800017409 := by decide +kernel

theorem share_one (a : Nat) (ha : 0 < a) (ha2 : a ≤ 9007199254740992) : share a a = 4607182418800017408 := by
  rw [← share_one_at]
  exact Nat.le_antisymm (share_mono ha2 ha ha2 (by omega) (by omega) (by omega) (by omega)) (share_mono (by omega) (by omega) (by omega) ha2 ha ha2 (by omega))

theorem share_pos (a b : Nat) (ha : 0 < a) (ha2 : a ≤ 9007199254740992) (hb : 0 < b) (hb2 : b ≤ 9007199254740992) : 0 < share a b := by
  have := share_mono (a := 1) (b := 9007199254740992) (c := a) (d := b) (by omega) (by omega) (by omega) ha2 hb hb2 (by omega)
  rw [share_least] at this
  omega

theorem share_lt_one (a b : Nat) (h : a < b) (hb2 : b ≤ 9007199254740992) : share a b < 4607182418800017408 := by
  have := share_mono (a := a) (b := b) (c := 9007199254740991) (d := 9007199254740992) (by omega) (by omega) hb2 (by omega) (by omega) (by omega) (by omega)
  rw [share_below_one] at this
  omega

theorem share_gt_one (a b : Nat) (h : b < a) (hb : 0 < b) (ha2 : a ≤ 9007199254740992) : 4607182418800017408 < share a b := by
  have := share_mono (a := 9007199254740992) (b := 9007199254740991) (c := a) (d := b) (by omega) (by omega) (by omega) ha2 hb (by omega) (by omega)
  rw [share_above_one] at this
  omega

/-- The magnitude of a rung in units of the least one. -/
def digits (k : Nat) : Nat := if k < 4503599627370496 then k else 4503599627370496 + k % 4503599627370496
def place (k : Nat) : Nat := if k < 4503599627370496 then 0 else k / 4503599627370496 - 1

theorem read_finite (k : Nat) (h : k < 9218868437227405312) : double.read k = .number false (digits k) (-1074 + place k) := by
  have hsw : double.signWeight = 9223372036854775808 := by decide
  have hbin : double.binade = 4503599627370496 := by decide
  have hinf : double.infRung = 9218868437227405312 := by decide
  have hlp : double.leastPlace = -1074 := by decide
  unfold Format.read
  rw [hsw, hbin, hinf, hlp]
  have d0 : k / 9223372036854775808 = 0 := by omega
  have m0 : k % 9223372036854775808 = k := by omega
  simp only [d0, m0]
  unfold digits place
  by_cases h1 : k < 4503599627370496
  · simp only [if_pos h1]; simp
  · simp only [if_neg h1, if_pos h]; simp

theorem value_mono {k l : Nat} (h : k < l) : digits k * 2 ^ place k < digits l * 2 ^ place l := by
  unfold digits place
  by_cases hk : k < 4503599627370496
  · by_cases hl : l < 4503599627370496
    · simp only [if_pos hk, if_pos hl]; omega
    · simp only [if_pos hk, if_neg hl]
      have : 1 ≤ 2 ^ (l / 4503599627370496 - 1) := Nat.two_pow_pos _
      calc k * 2 ^ 0 < 4503599627370496 + l % 4503599627370496 := by omega
        _ = (4503599627370496 + l % 4503599627370496) * 1 := by omega
        _ ≤ _ := Nat.mul_le_mul_left _ this
  · have hl : ¬ l < 4503599627370496 := by omega
    simp only [if_neg hk, if_neg hl]
    by_cases he : k / 4503599627370496 = l / 4503599627370496
    · rw [he]
      exact Nat.mul_lt_mul_of_pos_right (by omega) (Nat.two_pow_pos _)
    · have hlt : k / 4503599627370496 - 1 + 1 ≤ l / 4503599627370496 - 1 := by omega
      calc (4503599627370496 + k % 4503599627370496) * 2 ^ (k / 4503599627370496 - 1) < 9007199254740992 * 2 ^ (k / 4503599627370496 - 1) := Nat.mul_lt_mul_of_pos_right (by omega) (Nat.two_pow_pos _)
        _ = 4503599627370496 * 2 ^ (k / 4503599627370496 - 1 + 1) := by rw [Nat.pow_succ]; omega
        _ ≤ 4503599627370496 * 2 ^ (l / 4503599627370496 - 1) := Nat.mul_le_mul_left _ (Nat.pow_le_pow_right (by omega) hlt)
        _ ≤ _ := Nat.mul_le_mul_right _ (by omega)

theorem order_rungs (k l : Nat) (hk : k < 9218868437227405312) (hl : l < 9218868437227405312) : double.order k l = some (compare k l) := by
  unfold Format.order
  rw [read_finite k hk, read_finite l hl]
  unfold Datum.order
  dsimp only
  refine congrArg some ?_
  simp only [signed, Bool.false_eq_true, if_false, Nat.shiftLeft_eq]
  have e1 : (-1074 + (place k : Int) - min (-1074 + (place k : Int)) (-1074 + (place l : Int))).toNat = place k - min (place k) (place l) := by omega
  have e2 : (-1074 + (place l : Int) - min (-1074 + (place k : Int)) (-1074 + (place l : Int))).toNat = place l - min (place k) (place l) := by omega
  rw [e1, e2]
  have key : ∀ x y : Nat, digits x * 2 ^ (place x - min (place x) (place y)) < digits y * 2 ^ (place y - min (place x) (place y)) ↔ digits x * 2 ^ place x < digits y * 2 ^ place y := by
    intro x y
    have p : 0 < 2 ^ min (place x) (place y) := Nat.two_pow_pos _
    have f : ∀ d q : Nat, min (place x) (place y) ≤ q → d * 2 ^ (q - min (place x) (place y)) * 2 ^ min (place x) (place y) = d * 2 ^ q := by
      intro d q hq
      rw [Nat.mul_assoc, ← Nat.pow_add, Nat.sub_add_cancel hq]
    rw [← f (digits x) (place x) (Nat.min_le_left ..), ← f (digits y) (place y) (Nat.min_le_right ..)]
    exact (Nat.mul_lt_mul_right p).symm
  have key2 : digits l * 2 ^ (place l - min (place k) (place l)) < digits k * 2 ^ (place k - min (place k) (place l)) ↔ digits l * 2 ^ place l < digits k * 2 ^ place k := by
    have := key l k
    rw [Nat.min_comm (place l) (place k)] at this
    exact this
  rcases Nat.lt_trichotomy k l with h | h | h
  · have a := (key k l).2 (value_mono h)
    rw [Nat.compare_eq_lt.2 h]
    exact Int.compare_eq_lt.2 (Int.ofNat_lt.2 a)
  · subst h; simp
  · have a := key2.2 (value_mono h)
    rw [Nat.compare_eq_gt.2 h]
    exact Int.compare_eq_gt.2 (Int.ofNat_lt.2 a)

end Go.Proofs.Qxb6617761a.Plain
