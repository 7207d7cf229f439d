/-
  THE WALKS of stolenShare and of the law's helpers: what each call computes, as a plain function.
-/
import Derived.Test.Qxb6617761aRows
import Derived.Test.Qxb6617761aPlain
import Derived.WalkKit
import Derived.WalkSpells
import Derived.WalkLawsBesides
import Derived.Laws.FloatArith
import Derived.Laws.BitsAllLaws
import Derived.RowKit3
namespace Go.Proofs.Qxb6617761a
open Go.RowKit

/-- A word of 64 bits. -/
def Word (x : Int) : Prop := 0 ≤ x ∧ x ≤ 18446744073709551615

/-- float64(a) / float64(b), of integers. -/
def shr (a b : Int) : Nat := Plain.share a.toNat b.toNat

theorem nearest_int (n : Int) (h : 0 ≤ n) : floatOfInt .f64 n = Ieee.double.nearest false n.toNat 0 := by
  have h1 : decide (n < 0) = false := by simp; omega
  have h2 : n.natAbs = n.toNat := by omega
  show Ieee.double.nearest (decide (n < 0)) n.natAbs 0 = _
  rw [h1, h2]

theorem quo_bits (a b : Int) (ha0 : 0 ≤ a) (ha : a ≤ 18446744073709551615) (hb0 : 0 < b) (hb : b ≤ 18446744073709551615) :
    floatBits .quo .f64 (floatOfInt .f64 a) (floatOfInt .f64 b) = some (shr a b) := by
  rw [nearest_int a ha0, nearest_int b (by omega)]
  exact Plain.share_valid a.toNat b.toNat (by omega) (by omega) (by omega)

set_option maxHeartbeats 400000 in
theorem share_ok (pb ps pt cb cs ct : Int) (h1 : Word ps) (h2 : Word pt) (h3 : Word cs) (h4 : Word ct) (a1 : (pt == 0) = false) (a2 : pt < ct) (a3 : ps ≤ cs) (w : World) :
    Calls Try.prog 8 #[.agg #[.int .u64 pb, .int .u64 ps, .int .u64 pt], .agg #[.int .u64 cb, .int .u64 cs, .int .u64 ct]] w fun e w' =>
      e = .returned (.float .f64 (shr (cs - ps) (ct - pt))) ∧ ∃ c1 c2 : Array Value, w' = (w.alloc (.cells c1 32)).alloc (.cells c2 32) := by
  obtain ⟨p1, p2⟩ := h1; obtain ⟨p3, p4⟩ := h2; obtain ⟨p5, p6⟩ := h3; obtain ⟨p7, p8⟩ := h4
  have hq := fun w => run_float_arith (P := Try.prog) w .quo 23 .f64 _ _ _ (quo_bits (cs - ps) (ct - pt) (by omega) (by omega) (by omega) (by omega))
  go_enter Try.func8, Try.ntmps8
  go_wp2
  go_ret
  exact ⟨rfl, _, _, rfl⟩

set_option maxHeartbeats 400000 in
theorem share_no (pb ps pt cb cs ct : Int) (h1 : Word ps) (h2 : Word pt) (h3 : Word cs) (h4 : Word ct) (a : pt = 0 ∨ ct ≤ pt ∨ cs < ps) (w : World) :
    Calls Try.prog 8 #[.agg #[.int .u64 pb, .int .u64 ps, .int .u64 pt], .agg #[.int .u64 cb, .int .u64 cs, .int .u64 ct]] w fun e w' =>
      e = .returned (.float .f64 0) ∧ ∃ c1 c2 : Array Value, w' = (w.alloc (.cells c1 32)).alloc (.cells c2 32) := by
  obtain ⟨p1, p2⟩ := h1; obtain ⟨p3, p4⟩ := h2; obtain ⟨p5, p6⟩ := h3; obtain ⟨p7, p8⟩ := h4
  by_cases b1 : pt = 0
  · have c1 : (pt == 0) = true := by simp [b1]
    clear a b1
    go_enter Try.func8, Try.ntmps8
    go_wp2
    go_ret
    exact ⟨rfl, _, _, rfl⟩
  · have c1 : (pt == 0) = false := by simp [b1]
    by_cases b2 : ct ≤ pt
    · clear a b1
      go_enter Try.func8, Try.ntmps8
      go_wp2
      go_ret
      exact ⟨rfl, _, _, rfl⟩
    · have b3 : cs < ps := by omega
      clear a b1
      go_enter Try.func8, Try.ntmps8
      go_wp2
      go_ret
      exact ⟨rfl, _, _, rfl⟩

set_option maxHeartbeats 400000 in
theorem zzshare_ok (pb ps pt cb cs ct : Int) (h1 : Word ps) (h2 : Word pt) (h3 : Word cs) (h4 : Word ct) (a1 : pt ≠ 0) (a2 : pt < ct) (a3 : ps ≤ cs) (w : World) :
    Calls Try.prog 4 #[.int .u64 pb, .int .u64 ps, .int .u64 pt, .int .u64 cb, .int .u64 cs, .int .u64 ct] w fun e w' =>
      e = .returned (.float .f64 (shr (cs - ps) (ct - pt))) ∧ Grown w w' := by
  go_enter Try.func4, Try.ntmps4
  go_wp2_with (go_at_call 8; refine (share_ok pb ps pt cb cs ct h1 h2 h3 h4 (by simp [a1]) a2 a3 _).mono ?_; rintro e w' ⟨rfl, c1, c2, rfl⟩)
  go_ret
  exact ⟨rfl, ((Grown.refl _).alloc _ _).alloc _ _⟩

set_option maxHeartbeats 400000 in
theorem zzshare_no (pb ps pt cb cs ct : Int) (h1 : Word ps) (h2 : Word pt) (h3 : Word cs) (h4 : Word ct) (a : pt = 0 ∨ ct ≤ pt ∨ cs < ps) (w : World) :
    Calls Try.prog 4 #[.int .u64 pb, .int .u64 ps, .int .u64 pt, .int .u64 cb, .int .u64 cs, .int .u64 ct] w fun e w' =>
      e = .returned (.float .f64 0) ∧ Grown w w' := by
  have H : Hid (pt = 0 ∨ ct ≤ pt ∨ cs < ps) := a; clear a
  go_enter Try.func4, Try.ntmps4
  go_wp2_with (go_at_call 8; refine (share_no pb ps pt cb cs ct h1 h2 h3 h4 H.out _).mono ?_; rintro e w' ⟨rfl, c1, c2, rfl⟩)
  go_ret
  exact ⟨rfl, ((Grown.refl _).alloc _ _).alloc _ _⟩

/-! ### the plain law, of integers, in the walk's words -/
theorem shr_lt (a b : Int) (ha : 0 ≤ a) (ha2 : a ≤ 9007199254740992) (hb : 0 < b) (hb2 : b ≤ 9007199254740992) : shr a b < 9218868437227405312 :=
  Plain.share_lt _ _ (by omega) (by omega) (by omega)

theorem ord (k l : Nat) (hk : k < 9218868437227405312) (hl : l < 9218868437227405312) : FloatKind.f64.format.order k l = some (compare k l) := Plain.order_rungs k l hk hl

theorem eq_of {k l : Nat} (h : k = l) : (some (compare k l) == some Ordering.eq) = true := by subst h; simp
theorem lt_of {k l : Nat} (h : k < l) : (some (compare k l) == some Ordering.lt) = true := by rw [Nat.compare_eq_lt.2 h]; rfl
theorem gt_of {k l : Nat} (h : l < k) : (some (compare k l) == some Ordering.gt) = true := by rw [Nat.compare_eq_gt.2 h]; rfl
theorem le_of {k l : Nat} (h : k ≤ l) : (some (compare k l) == some Ordering.lt || some (compare k l) == some Ordering.eq) = true := by
  rcases Nat.lt_or_eq_of_le h with h | h
  · rw [lt_of h]; rfl
  · rw [eq_of h]; simp
theorem ge_of {k l : Nat} (h : l ≤ k) : (some (compare k l) == some Ordering.gt || some (compare k l) == some Ordering.eq) = true := by
  rcases Nat.lt_or_eq_of_le h with h | h
  · rw [gt_of h]; rfl
  · rw [eq_of h.symm]; simp

set_option maxHeartbeats 400000 in
theorem fixed_any (a b : Int) (ha : 0 ≤ a) (ha2 : a ≤ 9007199254740992) (hb : 0 < b) (hb2 : b ≤ 9007199254740992) (w : World) :
    Calls Try.prog 5 #[.int .u64 a, .int .u64 b, .float .f64 (shr a b)] w fun e w' => e = .returned (.bool true) ∧ w' = w := by
  have hr := shr_lt a b ha ha2 hb hb2
  by_cases c0 : a = 0
  · subst c0
    have k : (FloatKind.f64.format.order (shr 0 b) 0 == some .eq) = true := by
      rw [ord _ _ hr (by decide)]
      exact eq_of (Plain.share_zero _ (by omega) (by omega))
    go_enter Try.func5, Try.ntmps5
    go_wp2
    go_ret
    exact ⟨rfl, rfl⟩
  · have d0 : (a == 0) = false := by simp [c0]
    by_cases c1 : a = b
    · subst c1
      have k : (FloatKind.f64.format.order (shr a a) 4607182418800017408 == some .eq) = true := by
        rw [ord _ _ hr (by decide)]
        exact eq_of (Plain.share_one _ (by omega) (by omega))
      go_enter Try.func5, Try.ntmps5
      go_wp2
      go_ret
      exact ⟨rfl, rfl⟩
    · have d1 : (a == b) = false := by simp [c1]
      by_cases c2 : a < b
      · have k1 : (FloatKind.f64.format.order 0 (shr a b) == some .lt) = true := by
          rw [ord _ _ (by decide) hr]
          exact lt_of (Plain.share_pos _ _ (by omega) (by omega) (by omega) (by omega))
        have k2 : (FloatKind.f64.format.order (shr a b) 4607182418800017408 == some .lt) = true := by
          rw [ord _ _ hr (by decide)]
          exact lt_of (Plain.share_lt_one _ _ (by omega) (by omega))
        go_enter Try.func5, Try.ntmps5
        go_wp2
        go_ret
        exact ⟨rfl, rfl⟩
      · have k1 : (FloatKind.f64.format.order (shr a b) 4607182418800017408 == some .gt) = true := by
          rw [ord _ _ hr (by decide)]
          exact gt_of (Plain.share_gt_one _ _ (by omega) (by omega) (by omega))
        go_enter Try.func5, Try.ntmps5
        go_wp2
        go_ret
        exact ⟨rfl, rfl⟩

/-! ### the two words of a product -/
def msk (x : Int) : Int := bits BinOp.and IntKind.u64 x 4294967295
def wr (x : Int) : Int := IntKind.u64.wrap x
def midOf (a b : Int) : Int := wr (wr (wr (msk a * msk b) / 4294967296 + msk (wr (msk a * (b / 4294967296)))) + msk (wr (a / 4294967296 * msk b)))
def loOf (a b : Int) : Int := bits BinOp.or IntKind.u64 (msk (wr (msk a * msk b))) (wr (midOf a b * 4294967296))
def hiOf (a b : Int) : Int := wr (wr (wr (wr (a / 4294967296 * (b / 4294967296)) + wr (msk a * (b / 4294967296)) / 4294967296) + wr (a / 4294967296 * msk b) / 4294967296) + midOf a b / 4294967296)

theorem msk_eq (x : Int) (h0 : 0 ≤ x) (h : x < 18446744073709551616) : msk x = x % 4294967296 := by
  unfold msk
  rw [u64_and x 4294967295 h0 h (by decide) (by decide)]
  rw [show (4294967295 : Int).toNat = 2 ^ 32 - 1 from by decide, Nat.and_two_pow_sub_one_eq_mod]
  omega

theorem wr_eq (x : Int) (h0 : 0 ≤ x) (h : x < 18446744073709551616) : wr x = x := by
  unfold wr; rw [IntKind.wrap_u64]; omega

theorem or_eq (x y : Int) (h0 : 0 ≤ x) (h : x < 4294967296) (k0 : 0 ≤ y) (k : y < 4294967296) : bits BinOp.or IntKind.u64 x (y * 4294967296) = x + y * 4294967296 := by
  rw [u64_or x (y * 4294967296) h0 (by omega) (by omega) (by omega), Nat.or_comm, nat_join 32]
  · omega
  · show (y * 4294967296).toNat % 4294967296 = 0; omega
  · show x.toNat < 4294967296; omega

theorem mul_bound {a b A B : Int} (ha : 0 ≤ a) (hA : a ≤ A) (hb : 0 ≤ b) (hB : b ≤ B) : 0 ≤ a * b ∧ a * b ≤ A * B :=
  ⟨Int.mul_nonneg ha hb, Int.mul_le_mul hA hB hb (by omega)⟩

theorem hilo (a b : Int) (ha : 0 ≤ a) (ha2 : a ≤ 9007199254740992) (hb : 0 ≤ b) (hb2 : b ≤ 9007199254740992) :
    0 ≤ hiOf a b ∧ 0 ≤ loOf a b ∧ hiOf a b ≤ 18446744073709551615 ∧ loOf a b ≤ 18446744073709551615 ∧ hiOf a b * 18446744073709551616 + loOf a b = a * b := by
  have ea : a = a / 4294967296 * 4294967296 + a % 4294967296 := by omega
  have eb : b = b / 4294967296 * 4294967296 + b % 4294967296 := by omega
  have ma : msk a = a % 4294967296 := msk_eq a ha (by omega)
  have mb : msk b = b % 4294967296 := msk_eq b hb (by omega)
  have q1 : 0 ≤ a / 4294967296 ∧ a / 4294967296 ≤ 2097152 := by omega
  have q2 : 0 ≤ b / 4294967296 ∧ b / 4294967296 ≤ 2097152 := by omega
  have q3 : 0 ≤ a % 4294967296 ∧ a % 4294967296 ≤ 4294967295 := by omega
  have q4 : 0 ≤ b % 4294967296 ∧ b % 4294967296 ≤ 4294967295 := by omega
  have prod : a * b = a / 4294967296 * (b / 4294967296) * 18446744073709551616 + (a % 4294967296 * (b / 4294967296) + a / 4294967296 * (b % 4294967296)) * 4294967296 + a % 4294967296 * (b % 4294967296) := by
    generalize a / 4294967296 = x1 at *
    generalize a % 4294967296 = x0 at *
    generalize b / 4294967296 = y1 at *
    generalize b % 4294967296 = y0 at *
    rw [ea, eb, Int.add_mul, Int.mul_add, Int.mul_add]
    have e1 : x1 * 4294967296 * (y1 * 4294967296) = x1 * y1 * 18446744073709551616 := by
      rw [show x1 * 4294967296 * (y1 * 4294967296) = x1 * y1 * (4294967296 * 4294967296) from by ac_rfl]; rfl
    have e2 : x1 * 4294967296 * y0 = x1 * y0 * 4294967296 := by ac_rfl
    have e3 : x0 * (y1 * 4294967296) = x0 * y1 * 4294967296 := by ac_rfl
    rw [e1, e2, e3]; omega
  unfold hiOf loOf midOf
  rw [ma, mb, prod]
  have b00 := mul_bound q3.1 q3.2 q4.1 q4.2
  have b01 := mul_bound q3.1 q3.2 q2.1 q2.2
  have b10 := mul_bound q1.1 q1.2 q4.1 q4.2
  have b11 := mul_bound q1.1 q1.2 q2.1 q2.2
  generalize a % 4294967296 * (b % 4294967296) = p00 at *
  generalize a % 4294967296 * (b / 4294967296) = p01 at *
  generalize a / 4294967296 * (b % 4294967296) = p10 at *
  generalize a / 4294967296 * (b / 4294967296) = p11 at *
  clear prod ma mb ea eb q1 q2 q3 q4
  rw [wr_eq p00 (by omega) (by omega), wr_eq p01 (by omega) (by omega), wr_eq p10 (by omega) (by omega), wr_eq p11 (by omega) (by omega),
    msk_eq p00 (by omega) (by omega), msk_eq p01 (by omega) (by omega), msk_eq p10 (by omega) (by omega)]
  rw [wr_eq (p00 / 4294967296 + p01 % 4294967296) (by omega) (by omega), wr_eq (p00 / 4294967296 + p01 % 4294967296 + p10 % 4294967296) (by omega) (by omega)]
  have em : wr ((p00 / 4294967296 + p01 % 4294967296 + p10 % 4294967296) * 4294967296) = (p00 / 4294967296 + p01 % 4294967296 + p10 % 4294967296) % 4294967296 * 4294967296 := by
    unfold wr; rw [IntKind.wrap_u64]; omega
  rw [em, or_eq _ _ (by omega) (by omega) (by omega) (by omega)]
  rw [wr_eq (p11 + p01 / 4294967296) (by omega) (by omega), wr_eq (p11 + p01 / 4294967296 + p10 / 4294967296) (by omega) (by omega), wr_eq (p11 + p01 / 4294967296 + p10 / 4294967296 + (p00 / 4294967296 + p01 % 4294967296 + p10 % 4294967296) / 4294967296) (by omega) (by omega)]
  omega

set_option maxHeartbeats 400000 in
theorem mul_any (a b : Int) (_ha : 0 ≤ a) (_ha2 : a ≤ 9007199254740992) (_hb : 0 ≤ b) (_hb2 : b ≤ 9007199254740992) (w : World) :
    Calls Try.prog 6 #[.int .u64 a, .int .u64 b] w fun e w' => e = .returned (.tuple #[.int .u64 (hiOf a b), .int .u64 (loOf a b)]) ∧ w' = w := by
  go_enter Try.func6, Try.ntmps6
  go_wp2
  go_ret2
  exact ⟨rfl, rfl⟩

set_option maxHeartbeats 400000 in
theorem cmp_lt (ah al bh bl : Int) (h : ah < bh ∨ (ah = bh ∧ al < bl)) (w : World) :
    Calls Try.prog 7 #[.int .u64 ah, .int .u64 al, .int .u64 bh, .int .u64 bl] w fun e w' => e = .returned (.int .i64 (-1)) ∧ w' = w := by
  rcases h with h | ⟨rfl, h⟩
  · go_enter Try.func7, Try.ntmps7
    go_wp2
    go_ret
    exact ⟨rfl, rfl⟩
  · go_enter Try.func7, Try.ntmps7
    go_wp2
    go_ret
    exact ⟨rfl, rfl⟩

set_option maxHeartbeats 400000 in
theorem cmp_gt (ah al bh bl : Int) (h : bh < ah ∨ (ah = bh ∧ bl < al)) (w : World) :
    Calls Try.prog 7 #[.int .u64 ah, .int .u64 al, .int .u64 bh, .int .u64 bl] w fun e w' => e = .returned (.int .i64 1) ∧ w' = w := by
  rcases h with h | ⟨rfl, h⟩
  · have h' : ¬ ah < bh := by omega
    go_enter Try.func7, Try.ntmps7
    go_wp2
    go_ret
    exact ⟨rfl, rfl⟩
  · have h' : ¬ al < bl := by omega
    go_enter Try.func7, Try.ntmps7
    go_wp2
    go_ret
    exact ⟨rfl, rfl⟩

set_option maxHeartbeats 400000 in
theorem cmp_eq (ah al : Int) (w : World) :
    Calls Try.prog 7 #[.int .u64 ah, .int .u64 al, .int .u64 ah, .int .u64 al] w fun e w' => e = .returned (.int .i64 0) ∧ w' = w := by
  go_enter Try.func7, Try.ntmps7
  go_wp2
  go_ret
  exact ⟨rfl, rfl⟩

end Go.Proofs.Qxb6617761a
