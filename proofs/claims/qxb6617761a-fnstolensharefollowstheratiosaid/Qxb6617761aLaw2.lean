/-
  THE WALK OF THE LAW where both pairs are exact: the order of the shares is the order of the cross products.
-/
import Derived.Test.Qxb6617761aLaw
namespace Go.Proofs.Qxb6617761a
open Go.RowKit

set_option maxHeartbeats 2000000 in
set_option maxRecDepth 100000 in
theorem both_lt (a0 a1 a2 a3 a4 a5 a6 a7 a8 a9 a10 a11 : Int) (r1 r2 : Nat)
    (p1 : Word a1) (p2 : Word a2) (p4 : Word a4) (p5 : Word a5) (p7 : Word a7) (p8 : Word a8) (p10 : Word a10) (p11 : Word a11)
    (H1 : Hid (∀ w, Calls Try.prog 4 #[.int .u64 a0, .int .u64 a1, .int .u64 a2, .int .u64 a3, .int .u64 a4, .int .u64 a5] w fun e w' =>
      e = .returned (.float .f64 r1) ∧ Grown w w'))
    (H2 : Hid (∀ w, Calls Try.prog 4 #[.int .u64 a6, .int .u64 a7, .int .u64 a8, .int .u64 a9, .int .u64 a10, .int .u64 a11] w fun e w' =>
      e = .returned (.float .f64 r2) ∧ Grown w w'))
    (n1 : Exact a1 a2 a4 a5 r1) (n2 : Exact a7 a8 a10 a11 r2) (hc : (a4 - a1) * (a11 - a8) < (a10 - a7) * (a5 - a2)) (w : World) :
    Calls Try.prog 3 #[.int .u64 a0, .int .u64 a1, .int .u64 a2, .int .u64 a3, .int .u64 a4, .int .u64 a5, .int .u64 a6, .int .u64 a7, .int .u64 a8, .int .u64 a9, .int .u64 a10, .int .u64 a11] w fun e w' => e = .returned (.bool true) ∧ Grown w w' := by
  obtain ⟨p1, q1⟩ := p1; obtain ⟨p2, q2⟩ := p2; obtain ⟨p4, q4⟩ := p4; obtain ⟨p5, q5⟩ := p5
  obtain ⟨p7, q7⟩ := p7; obtain ⟨p8, q8⟩ := p8; obtain ⟨p10, q10⟩ := p10; obtain ⟨p11, q11⟩ := p11
  obtain ⟨n1, n1', n1'', n1x, n1y, rfl⟩ := n1
  obtain ⟨n2, n2', n2'', n2x, n2y, rfl⟩ := n2
  have l1 := hilo (a4 - a1) (a11 - a8) (by omega) (by omega) (by omega) (by omega)
  have l2 := hilo (a10 - a7) (a5 - a2) (by omega) (by omega) (by omega) (by omega)
  have k : (FloatKind.f64.format.order (shr (a4 - a1) (a5 - a2)) (shr (a10 - a7) (a11 - a8)) == some Ordering.lt || FloatKind.f64.format.order (shr (a4 - a1) (a5 - a2)) (shr (a10 - a7) (a11 - a8)) == some Ordering.eq) = true := by
    rw [ord _ _ (shr_lt _ _ (by omega) (by omega) (by omega) (by omega)) (shr_lt _ _ (by omega) (by omega) (by omega) (by omega))]
    exact le_of (shr_mono (by omega) (by omega) (by omega) (by omega) (by omega) (by omega) (by omega) (by omega) (Int.le_of_lt hc))
  have hw : Hid (hiOf (a4 - a1) (a11 - a8) < hiOf (a10 - a7) (a5 - a2) ∨ (hiOf (a4 - a1) (a11 - a8) = hiOf (a10 - a7) (a5 - a2) ∧ loOf (a4 - a1) (a11 - a8) < loOf (a10 - a7) (a5 - a2))) :=
    words_lt ⟨l1.2.1, l1.2.2.2.1⟩ ⟨l2.2.1, l2.2.2.2.1⟩ (by rw [l1.2.2.2.2, l2.2.2.2.2]; exact hc)
  clear hc l1 l2
  go_enter Try.func3, Try.ntmps3
  go_wp2_with fail
  refine (H1.out _).mono ?_
  rintro e w1 ⟨rfl, g1⟩
  go_wp2_with fail
  refine (H2.out _).mono ?_
  rintro e w2 ⟨rfl, g2⟩
  go_wp2_with fail
  refine (fixed_any (a4 - a1) (a5 - a2) (by omega) (by omega) (by omega) (by omega) _).mono ?_
  rintro e w' ⟨rfl, rfl⟩
  go_wp2_with fail
  refine (fixed_any (a10 - a7) (a11 - a8) (by omega) (by omega) (by omega) (by omega) _).mono ?_
  rintro e w' ⟨rfl, rfl⟩
  go_wp2_with fail
  refine (mul_any (a4 - a1) (a11 - a8) (by omega) (by omega) (by omega) (by omega) _).mono ?_
  rintro e w' ⟨rfl, rfl⟩
  go_wp2_with fail
  refine (mul_any (a10 - a7) (a5 - a2) (by omega) (by omega) (by omega) (by omega) _).mono ?_
  rintro e w' ⟨rfl, rfl⟩
  go_wp2_with fail
  refine (cmp_lt _ _ _ _ hw.out _).mono ?_
  rintro e w' ⟨rfl, rfl⟩
  go_wp2_with fail
  go_ret
  exact ⟨rfl, grown_trans g1 g2⟩

set_option maxHeartbeats 2000000 in
set_option maxRecDepth 100000 in
theorem both_gt (a0 a1 a2 a3 a4 a5 a6 a7 a8 a9 a10 a11 : Int) (r1 r2 : Nat)
    (p1 : Word a1) (p2 : Word a2) (p4 : Word a4) (p5 : Word a5) (p7 : Word a7) (p8 : Word a8) (p10 : Word a10) (p11 : Word a11)
    (H1 : Hid (∀ w, Calls Try.prog 4 #[.int .u64 a0, .int .u64 a1, .int .u64 a2, .int .u64 a3, .int .u64 a4, .int .u64 a5] w fun e w' =>
      e = .returned (.float .f64 r1) ∧ Grown w w'))
    (H2 : Hid (∀ w, Calls Try.prog 4 #[.int .u64 a6, .int .u64 a7, .int .u64 a8, .int .u64 a9, .int .u64 a10, .int .u64 a11] w fun e w' =>
      e = .returned (.float .f64 r2) ∧ Grown w w'))
    (n1 : Exact a1 a2 a4 a5 r1) (n2 : Exact a7 a8 a10 a11 r2) (hc : (a10 - a7) * (a5 - a2) < (a4 - a1) * (a11 - a8)) (w : World) :
    Calls Try.prog 3 #[.int .u64 a0, .int .u64 a1, .int .u64 a2, .int .u64 a3, .int .u64 a4, .int .u64 a5, .int .u64 a6, .int .u64 a7, .int .u64 a8, .int .u64 a9, .int .u64 a10, .int .u64 a11] w fun e w' => e = .returned (.bool true) ∧ Grown w w' := by
  obtain ⟨p1, q1⟩ := p1; obtain ⟨p2, q2⟩ := p2; obtain ⟨p4, q4⟩ := p4; obtain ⟨p5, q5⟩ := p5
  obtain ⟨p7, q7⟩ := p7; obtain ⟨p8, q8⟩ := p8; obtain ⟨p10, q10⟩ := p10; obtain ⟨p11, q11⟩ := p11
  obtain ⟨n1, n1', n1'', n1x, n1y, rfl⟩ := n1
  obtain ⟨n2, n2', n2'', n2x, n2y, rfl⟩ := n2
  have l1 := hilo (a4 - a1) (a11 - a8) (by omega) (by omega) (by omega) (by omega)
  have l2 := hilo (a10 - a7) (a5 - a2) (by omega) (by omega) (by omega) (by omega)
  have k : (FloatKind.f64.format.order (shr (a4 - a1) (a5 - a2)) (shr (a10 - a7) (a11 - a8)) == some Ordering.gt || FloatKind.f64.format.order (shr (a4 - a1) (a5 - a2)) (shr (a10 - a7) (a11 - a8)) == some Ordering.eq) = true := by
    rw [ord _ _ (shr_lt _ _ (by omega) (by omega) (by omega) (by omega)) (shr_lt _ _ (by omega) (by omega) (by omega) (by omega))]
    exact ge_of (shr_mono (by omega) (by omega) (by omega) (by omega) (by omega) (by omega) (by omega) (by omega) (Int.le_of_lt hc))
  have hw : Hid (hiOf (a10 - a7) (a5 - a2) < hiOf (a4 - a1) (a11 - a8) ∨ (hiOf (a4 - a1) (a11 - a8) = hiOf (a10 - a7) (a5 - a2) ∧ loOf (a10 - a7) (a5 - a2) < loOf (a4 - a1) (a11 - a8))) := by
    have h := words_lt ⟨l2.2.1, l2.2.2.2.1⟩ ⟨l1.2.1, l1.2.2.2.1⟩ (by rw [l1.2.2.2.2, l2.2.2.2.2]; exact hc)
    rcases h with h | ⟨h, h'⟩
    · exact Or.inl h
    · exact Or.inr ⟨h.symm, h'⟩
  clear hc l1 l2
  go_enter Try.func3, Try.ntmps3
  go_wp2_with fail
  refine (H1.out _).mono ?_
  rintro e w1 ⟨rfl, g1⟩
  go_wp2_with fail
  refine (H2.out _).mono ?_
  rintro e w2 ⟨rfl, g2⟩
  go_wp2_with fail
  refine (fixed_any (a4 - a1) (a5 - a2) (by omega) (by omega) (by omega) (by omega) _).mono ?_
  rintro e w' ⟨rfl, rfl⟩
  go_wp2_with fail
  refine (fixed_any (a10 - a7) (a11 - a8) (by omega) (by omega) (by omega) (by omega) _).mono ?_
  rintro e w' ⟨rfl, rfl⟩
  go_wp2_with fail
  refine (mul_any (a4 - a1) (a11 - a8) (by omega) (by omega) (by omega) (by omega) _).mono ?_
  rintro e w' ⟨rfl, rfl⟩
  go_wp2_with fail
  refine (mul_any (a10 - a7) (a5 - a2) (by omega) (by omega) (by omega) (by omega) _).mono ?_
  rintro e w' ⟨rfl, rfl⟩
  go_wp2_with fail
  refine (cmp_gt _ _ _ _ hw.out _).mono ?_
  rintro e w' ⟨rfl, rfl⟩
  go_wp2_with fail
  go_ret
  exact ⟨rfl, grown_trans g1 g2⟩

set_option maxHeartbeats 2000000 in
set_option maxRecDepth 100000 in
theorem both_eq (a0 a1 a2 a3 a4 a5 a6 a7 a8 a9 a10 a11 : Int) (r1 r2 : Nat)
    (p1 : Word a1) (p2 : Word a2) (p4 : Word a4) (p5 : Word a5) (p7 : Word a7) (p8 : Word a8) (p10 : Word a10) (p11 : Word a11)
    (H1 : Hid (∀ w, Calls Try.prog 4 #[.int .u64 a0, .int .u64 a1, .int .u64 a2, .int .u64 a3, .int .u64 a4, .int .u64 a5] w fun e w' =>
      e = .returned (.float .f64 r1) ∧ Grown w w'))
    (H2 : Hid (∀ w, Calls Try.prog 4 #[.int .u64 a6, .int .u64 a7, .int .u64 a8, .int .u64 a9, .int .u64 a10, .int .u64 a11] w fun e w' =>
      e = .returned (.float .f64 r2) ∧ Grown w w'))
    (n1 : Exact a1 a2 a4 a5 r1) (n2 : Exact a7 a8 a10 a11 r2) (hc : (a4 - a1) * (a11 - a8) = (a10 - a7) * (a5 - a2)) (w : World) :
    Calls Try.prog 3 #[.int .u64 a0, .int .u64 a1, .int .u64 a2, .int .u64 a3, .int .u64 a4, .int .u64 a5, .int .u64 a6, .int .u64 a7, .int .u64 a8, .int .u64 a9, .int .u64 a10, .int .u64 a11] w fun e w' => e = .returned (.bool true) ∧ Grown w w' := by
  obtain ⟨p1, q1⟩ := p1; obtain ⟨p2, q2⟩ := p2; obtain ⟨p4, q4⟩ := p4; obtain ⟨p5, q5⟩ := p5
  obtain ⟨p7, q7⟩ := p7; obtain ⟨p8, q8⟩ := p8; obtain ⟨p10, q10⟩ := p10; obtain ⟨p11, q11⟩ := p11
  obtain ⟨n1, n1', n1'', n1x, n1y, rfl⟩ := n1
  obtain ⟨n2, n2', n2'', n2x, n2y, rfl⟩ := n2
  have l1 := hilo (a4 - a1) (a11 - a8) (by omega) (by omega) (by omega) (by omega)
  have l2 := hilo (a10 - a7) (a5 - a2) (by omega) (by omega) (by omega) (by omega)
  have k : (FloatKind.f64.format.order (shr (a4 - a1) (a5 - a2)) (shr (a10 - a7) (a11 - a8)) == some Ordering.eq) = true := by
    rw [ord _ _ (shr_lt _ _ (by omega) (by omega) (by omega) (by omega)) (shr_lt _ _ (by omega) (by omega) (by omega) (by omega))]
    exact eq_of (Nat.le_antisymm
      (shr_mono (by omega) (by omega) (by omega) (by omega) (by omega) (by omega) (by omega) (by omega) (Int.le_of_eq hc))
      (shr_mono (by omega) (by omega) (by omega) (by omega) (by omega) (by omega) (by omega) (by omega) (Int.le_of_eq hc.symm)))
  have hw : Hid (hiOf (a4 - a1) (a11 - a8) = hiOf (a10 - a7) (a5 - a2) ∧ loOf (a4 - a1) (a11 - a8) = loOf (a10 - a7) (a5 - a2)) :=
    words_eq ⟨l1.2.1, l1.2.2.2.1⟩ ⟨l2.2.1, l2.2.2.2.1⟩ (by rw [l1.2.2.2.2, l2.2.2.2.2]; exact hc)
  clear hc l1 l2
  go_enter Try.func3, Try.ntmps3
  go_wp2_with fail
  refine (H1.out _).mono ?_
  rintro e w1 ⟨rfl, g1⟩
  go_wp2_with fail
  refine (H2.out _).mono ?_
  rintro e w2 ⟨rfl, g2⟩
  go_wp2_with fail
  refine (fixed_any (a4 - a1) (a5 - a2) (by omega) (by omega) (by omega) (by omega) _).mono ?_
  rintro e w' ⟨rfl, rfl⟩
  go_wp2_with fail
  refine (fixed_any (a10 - a7) (a11 - a8) (by omega) (by omega) (by omega) (by omega) _).mono ?_
  rintro e w' ⟨rfl, rfl⟩
  go_wp2_with fail
  refine (mul_any (a4 - a1) (a11 - a8) (by omega) (by omega) (by omega) (by omega) _).mono ?_
  rintro e w' ⟨rfl, rfl⟩
  go_wp2_with fail
  refine (mul_any (a10 - a7) (a5 - a2) (by omega) (by omega) (by omega) (by omega) _).mono ?_
  rintro e w' ⟨rfl, rfl⟩
  go_wp2_with fail
  rw [hw.out.1, hw.out.2]
  refine (cmp_eq _ _ _).mono ?_
  rintro e w' ⟨rfl, rfl⟩
  go_wp2_with fail
  go_ret
  exact ⟨rfl, grown_trans g1 g2⟩

end Go.Proofs.Qxb6617761a
