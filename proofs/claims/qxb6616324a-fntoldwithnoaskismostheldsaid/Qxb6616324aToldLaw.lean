/-
  THE WALK OF THE LAW FnToldWithNoAskIsMostHeld.
-/
import Derived.Test.Qxb6616324aPeers
namespace Go.Proofs.Qxb6616324a
open Go.RowKit

/-- The most that the first k peers hold. -/
def mostOf (Hd : Nat → Int) : Nat → Int
  | 0 => 0
  | k + 1 => if mostOf Hd k < Hd k then Hd k else mostOf Hd k

theorem most_ge (Hd : Nat → Int) (k i : Nat) (h : i < k) : Hd i ≤ mostOf Hd k := by
  induction k with
  | zero => omega
  | succ k ih =>
    unfold mostOf
    by_cases e : i = k
    · subst e; split <;> omega
    · have := ih (by omega)
      split <;> omega

theorem most_is (Hd : Nat → Int) (k : Nat) : mostOf Hd k = 0 ∨ ∃ i, i < k ∧ mostOf Hd k = Hd i := by
  induction k with
  | zero => left; rfl
  | succ k ih =>
    unfold mostOf
    split
    · right; exact ⟨k, by omega, rfl⟩
    · rcases ih with h | ⟨i, hi, h⟩
      · left; exact h
      · right; exact ⟨i, by omega, h⟩

/-- THE PLAIN LAW: with no ask outstanding told is 'the most any peer holds reaches from'. -/
theorem plain_got (n : Nat) (frm : Int) (I Hd : Nat → Int) (h0 : 0 ≤ frm) :
    someB n (fun i => tst frm (valOf (.map [])) (I i) (Hd i)) = ((frm != 0) && decide (frm ≤ mostOf Hd n)) := by
  by_cases z : frm = 0
  · subst z
    rw [someB_false (fun i _ => by simp [tst, val_empty])]
    simp
  · have z1 : (frm != 0) = true := by simp [z]
    rw [z1, Bool.true_and]
    by_cases hm : frm ≤ mostOf Hd n
    · rw [decide_eq_true hm]
      rcases most_is Hd n with h | ⟨i, hi, h⟩
      · omega
      · exact someB_true hi (by
          have : frm ≤ Hd i := by omega
          simp [tst, val_empty, this]; omega)
    · rw [decide_eq_false hm]
      exact someB_false fun i hi => by
        have := most_ge Hd n i hi
        have : ¬ frm ≤ Hd i := by omega
        simp [tst, this]

theorem plain_asked (n : Nat) (frm : Int) (f : Int → Int) (I Hd : Nat → Int) (h : ∀ i, i < n → f (I i) = frm) :
    someB n (fun i => tst frm f (I i) (Hd i)) = false := someB_false fun i hi => by simp [tst, h i hi]

/-- The map after k rounds answers frm at every key met. -/
def Filled (D : DataW Unit) (I : Nat → Int) (frm : Int) (k : Nat) : Prop := ∀ i, i < k → valOf D (I i) = frm

theorem filled_step {D : DataW Unit} {I : Nat → Int} {frm : Int} {k : Nat} (hD : Maps.IsMap D) (hw : (Lit.int .u64 (I k)).wf = true) (h : Filled D I frm k) :
    Filled (D.put (.int .u64 (I k)) (.lit (.int .u64 frm))) I frm (k + 1) := by
  intro i hi
  by_cases e : I i = I k
  · rw [e]; exact val_put_same hD _ _ hw
  · rw [val_put_other _ _ _ e]
    exact h i (by
      have : i ≠ k := fun e' => e (by rw [e'])
      omega)

set_option maxHeartbeats 4000000 in
set_option maxRecDepth 100000 in
theorem law_some (b off n cap : Nat) (frm : Int) (I Hd : Nat → Int) (w : World) (hn : n ≤ 65536) (hp : Peers w b off n I Hd) (hfw : (Lit.int .u64 frm).wf = true) (h0 : 0 ≤ frm) :
    Calls Try.prog 3 #[.int .u64 frm, .slice (some ⟨b, off, none⟩) n cap] w fun e w' => e = .returned (.bool true) ∧ Below w.heap.size w w' := by
  have hmm := @run_makeMap Try.prog
  have hmh := make_hint n hn
  go_enter Try.func3, Try.ntmps3
  go_wp2_with fail
  refine (bytes_yes frm _ n cap _ (by omega)).mono ?_
  rintro e w0 ⟨rfl, rfl⟩
  go_wp2_with fail
  refine (topeers_any b off n cap I Hd _ hn hp).mono ?_
  rintro e w1 ⟨rfl, hp1, hb1⟩
  go_wp2_with fail
  refine (newc_any _ _).mono ?_
  rintro e w2 ⟨c2, hc2, rfl, rfl⟩
  go_wp2_with fail
  have lk2 : Looks (w1.alloc (.map #[] 0)) w1.heap.size (valOf (.map [])) := looks_of_owns (World.ownsMap_made w1 _ _ _)
  have hb2 : Below w1.heap.size w1 ((w1.alloc (.map #[] 0)).alloc (.cells c2 43)) := ((Below.refl _ _).alloc (Nat.le_refl _) _).alloc (by simp) _
  have hct : Ctch ((w1.alloc (.map #[] 0)).alloc (.cells c2 43)) (w1.heap.size + 1) w1.heap.size (valOf (.map [])) := by
    have := ctch_new lk2 c2 hc2
    simpa using this
  refine (zztold_any w0.heap.size 0 n n (w1.heap.size + 1) w1.heap.size frm _ I Hd _ hn (hp1.below hb2) hct).mono ?_
  rintro e w3 ⟨rfl, hb3⟩
  have hb03 : Below w0.heap.size w0 w3 := hb1.trans ((hb2.mono hb1.size).trans (hb3.mono (by have := hb1.size; simp; omega)))
  have hp3 : Peers w3 b off n I Hd := hp.below hb03
  have hq3 : Peers w3 w0.heap.size 0 n I Hd := (hp1.below hb2).below hb3
  rw [plain_got n frm I Hd h0]
  generalize hgot : ((frm != 0) && decide (frm ≤ mostOf Hd n)) = got
  have HG : Hid (((frm != 0) && decide (frm ≤ mostOf Hd n)) = got) := hgot
  clear hgot lk2 hct hb2 hb3 hc2 hp1 hp
  go_wp2
  go_loop [7, 8] (fun m i => ∃ k : Nat, k ≤ n ∧ i = .int .i64 k ∧ m = .int .u64 (mostOf Hd k)) (fun _ i => n - (intOf i).toNat)
  case atStart => exact ⟨0, Nat.zero_le _, rfl, rfl⟩
  case round =>
    obtain ⟨k, hk, rfl, rfl⟩ := hrel
    by_cases hlt : k < n
    · obtain ⟨c0, c1, hw0⟩ := hp3.2 k hlt
      have hlt' : (k : Int) < (n : Int) := by omega
      by_cases hm : mostOf Hd k < Hd k
      · have HM : Hid (mostOf Hd (k + 1) = Hd k) := by show mostOf Hd (k + 1) = Hd k; simp [mostOf, hm]
        go_wp2
        go_round
        case rel => exact ⟨k + 1, by omega, by go_num, by rw [HM.out]⟩
        case measure => simp [intOf]; omega
      · have HM : Hid (mostOf Hd (k + 1) = mostOf Hd k) := by show mostOf Hd (k + 1) = mostOf Hd k; simp [mostOf, hm]
        go_wp2
        go_round
        case rel => exact ⟨k + 1, by omega, by go_num, by rw [HM.out]⟩
        case measure => simp [intOf]; omega
    · have hkn : k = n := by omega
      subst hkn
      clear hk hlt
      have hq : (frm != 0) = false ∨ ((frm != 0) = true ∧ frm ≤ mostOf Hd k) ∨ ((frm != 0) = true ∧ decide (frm ≤ mostOf Hd k) = false) := by
        by_cases z : frm = 0
        · left; simp [z]
        · right
          have z1 : (frm != 0) = true := by simp [z]
          by_cases z2 : frm ≤ mostOf Hd k
          · left; exact ⟨z1, z2⟩
          · right; exact ⟨z1, decide_eq_false z2⟩
      have HW : Hid (((frm != 0) && decide (frm ≤ mostOf Hd k)) = got) := HG
      clear HG
      rcases hq with q1 | ⟨q1, q2⟩ | ⟨q1, q2⟩
      case' inl => have hgv : got = false := by rw [← HW.out, q1]; rfl
      case' inr.inl => have hgv : got = true := by rw [← HW.out, q1, decide_eq_true q2]; rfl
      case' inr.inr => have hgv : got = false := by rw [← HW.out, q1, q2]; rfl
      all_goals
        subst hgv
        clear HW
        go_wp2
        go_loopw [11] (fun i wr => ∃ j : Nat, ∃ D : DataW Unit, j ≤ k ∧ i = .int .i64 j ∧ wr.ownsMap Try.prog 22 (plainElem Try.prog 22) w3.heap.size j D ∧ Filled D I frm j ∧ Below w3.heap.size w3 wr) (fun i _ => k - (intOf i).toNat)
        case atStart => exact ⟨0, _, Nat.zero_le _, rfl, World.ownsMap_made w3 _ _ _, fun i hi => absurd hi (Nat.not_lt_zero i), (Below.refl _ _).alloc (Nat.le_refl _) _⟩
        case round =>
          obtain ⟨j, D, hj, rfl, hown, hfil, hbw⟩ := hrel
          have HF : Hid (Filled D I frm j) := hfil
          clear hfil
          by_cases hlt : j < k
          · obtain ⟨c0, c1, hw0⟩ := (hp3.below hbw).2 j hlt
            have hlt' : (j : Int) < (k : Int) := by omega
            go_wp2_with (first | (at_mapUpdate; refine wpList_mapUpdate_own _ rfl _ _ _ 30 rfl 22 22 law22 Try.underlying30 _ w3.heap.size j _ rfl hown (by unfold maxLen; omega) _ _ _ rfl rfl (Maps.keyOf_int_mk Try.underlying22 hw0) _ [] (plainElem_int Try.underlying22 hfw) ?_; intro w5 hown5 hgrow5) | go_in)
            go_roundw
            case rel => exact ⟨j + 1, _, by omega, by go_num, hown5, filled_step hown.isMap hw0 HF.out, hbw.grown hgrow5 hbw.size (fun x hx => by cases hx; exact Nat.le_refl _)⟩
            case measure => simp [intOf]; omega
          · have hkn : j = k := by omega
            subst hkn
            have lk4 := looks_of_owns hown
            have hq4 : Peers wr w0.heap.size 0 j I Hd := hq3.below hbw
            go_wp2_with fail
            refine (newc_any _ _).mono ?_
            rintro e w5 ⟨c5, hc5, rfl, rfl⟩
            go_wp2_with fail
            have hb5 : Below wr.heap.size wr (wr.alloc (.cells c5 43)) := (Below.refl _ _).alloc (Nat.le_refl _) _
            refine (zztold_any w0.heap.size 0 j j wr.heap.size w3.heap.size frm _ I Hd _ hn (hq4.below hb5) (ctch_new lk4 c5 hc5)).mono ?_
            rintro e w6 ⟨rfl, hb6⟩
            rw [plain_asked j frm (valOf D) I Hd HF.out]
            go_wp2_with fail
            go_ret
            exact ⟨rfl, hb03.trans ((hbw.mono hb03.size).trans ((hb5.mono (Nat.le_trans hb03.size hbw.size)).trans (hb6.mono (by have := hb03.size; have := hbw.size; simp; omega))))⟩

set_option maxHeartbeats 4000000 in
set_option maxRecDepth 100000 in
theorem law_none (a : Option Addr) (cap : Nat) (frm : Int) (w : World) (h0 : 0 ≤ frm) :
    Calls Try.prog 3 #[.int .u64 frm, .slice a 0 cap] w fun e w' => e = .returned (.bool true) ∧ Below w.heap.size w w' := by
  have hmm := @run_makeMap Try.prog
  have hmh : ∀ w, (Instr.makeMap 30 (some (.int .i64 0))).run Try.prog w = .ok (.map (some w.heap.size)) (w.alloc (.map #[] 0)) := fun w => make_hint 0 (by omega) w
  have hq : (frm != 0) = false ∨ ((frm != 0) = true ∧ decide (frm ≤ 0) = false) := by
    by_cases z : frm = 0
    · left; simp [z]
    · right; exact ⟨by simp [z], decide_eq_false (by omega)⟩
  clear h0
  rcases hq with q1 | ⟨q1, q2⟩
  all_goals
    go_enter Try.func3, Try.ntmps3
    go_wp2_with fail
    refine (bytes_yes frm a 0 cap _ (by omega)).mono ?_
    rintro e w0 ⟨rfl, rfl⟩
    go_wp2_with fail
    refine (topeers_none a cap _).mono ?_
    rintro e w1 ⟨rfl, hb1⟩
    go_wp2_with fail
    refine (newc_any _ _).mono ?_
    rintro e w2 ⟨c2, hc2, rfl, rfl⟩
    go_wp2_with fail
    refine (zztold_none _ 0 _ frm _).mono ?_
    rintro e w3 ⟨rfl, hb3⟩
    have hb2 : Below w1.heap.size w1 ((w1.alloc (.map #[] 0)).alloc (.cells c2 43)) := ((Below.refl _ _).alloc (Nat.le_refl _) _).alloc (by simp) _
    have hb03 : Below w0.heap.size w0 w3 := hb1.trans ((hb2.mono hb1.size).trans (hb3.mono (by have := hb1.size; simp; omega)))
    clear hb1 hb2 hb3 hc2
    go_wp2
    go_loop [7, 8] (fun m i => i = .int .i64 0 ∧ m = .int .u64 0) (fun _ _ => 0)
    case atStart => exact ⟨rfl, rfl⟩
    case round =>
      obtain ⟨rfl, rfl⟩ := hrel
      go_wp2
      go_loop [11] (fun i => i = .int .i64 0) (fun _ => 0)
      case atStart => rfl
      case round =>
        subst hrel
        go_wp2_with fail
        refine (newc_any _ _).mono ?_
        rintro e w5 ⟨c5, hc5, rfl, rfl⟩
        go_wp2_with fail
        refine (zztold_none _ 0 _ frm _).mono ?_
        rintro e w6 ⟨rfl, hb6⟩
        go_wp2_with fail
        go_ret
        exact ⟨rfl, ((hb03.alloc hb03.size _).alloc (by have := hb03.size; simp; omega) _).trans (hb6.mono (by have := hb03.size; simp; omega))⟩

/-- Too long a slice: the law answers true at once. -/
theorem law_long (a : Option Addr) (n cap : Nat) (frm : Int) (w : World) (h : 65536 < n) (hm : n ≤ 9223372036854775807) :
    Calls Try.prog 3 #[.int .u64 frm, .slice a n cap] w fun e w' => e = .returned (.bool true) ∧ Below w.heap.size w w' := by
  by_cases h1 : 1048576 < n
  · go_enter Try.func3, Try.ntmps3
    go_wp2_with fail
    refine (bytes_no frm a n cap _ h1 hm).mono ?_
    rintro e w0 ⟨rfl, rfl⟩
    go_wp2_with fail
    go_ret
    exact ⟨rfl, Below.refl _ _⟩
  · go_enter Try.func3, Try.ntmps3
    go_wp2_with fail
    refine (bytes_yes frm a n cap _ (by omega)).mono ?_
    rintro e w0 ⟨rfl, rfl⟩
    go_wp2_with fail
    go_ret
    exact ⟨rfl, Below.refl _ _⟩

end Go.Proofs.Qxb6616324a
