/-
  THE WALK OF THE LAW FnForgetLeavesEachNameItsLastLiveHold.
-/
import Derived.Test.Qxb6616530aFill
namespace Go.Proofs.Qxb6616530a
open Go.RowKit
set_option linter.unusedVariables false

/-- All that holds after k rounds. -/
def At6 (w : World) (L bm M n : Nat) (S : Nat → ByteArray) (F T : Nat → Bool) (k : Nat) : Prop :=
  ∃ (tg : Nat → Int) (H : Nat → Nat) (D : DataW Unit), St w L bm M n S F (mrow F H k) (trow tg k) H k k D ∧ Inv D S F T tg H k

section
variable {w W : World} {L bm M n k p : Nat} {S : Nat → ByteArray} {F T : Nat → Bool} {tg : Nat → Int} {H : Nat → Nat} {D : DataW Unit}

theorem St.inj {R Q : Nat → Value} {nd : Nat} (h : St w L bm M n S F R Q H k nd D) {i j : Nat} (hi : i < k) (hj : j < k) (fi : F i = false) (fj : F j = false) (e : H i = H j) : i = j := by
  rcases Nat.lt_trichotomy i j with hlt | heq | hgt
  · have := h.up i j hlt hj fi fj; omega
  · exact heq
  · have := h.up j i hgt hi fj fi; omega

theorem tg_old (v : Int) : ∀ j, j < k → (fun x => if x = k then v else tg x) j = tg j := fun j hj => by simp only [if_neg (Nat.ne_of_lt hj)]
theorem H_old : ∀ j, j < k → (fun x => if x = k then p else H x) j = H j := fun j hj => by simp only [if_neg (Nat.ne_of_lt hj)]

/-- The end of a round: a stale make. -/
theorem fin_stale (h0 : St w L bm M n S F (mrow F H k) (trow tg k) H k k D) (hi : Inv D S F T tg H k) (hF : F k = false) (hT : T k = true)
    (hW : St W L bm M n S F (fun j => if j = k then .pointer (some ⟨p, 0, none⟩) else mrow F H k j) (fun j => if j = k then .int .i64 (-1) else trow tg k j) H k k D) (hp : HoldAt W p (S k)) (hpw : w.heap.size ≤ p) : At6 W L bm M n S F T (k + 1) := by
  refine ⟨fun x => if x = k then -1 else tg x, fun x => if x = k then p else H x, D, (St.made h0 hW hp hpw).rows (fun j _ => mrow_make F H k j p hF) (fun j _ => trow_step tg k j (-1)) (Nat.le_succ k), ?_⟩
  exact inv_same (inv_congr hi (tg_old (-1))) (Or.inr hT) (fun s r _ => by simp only [if_true]; omega) H_old

/-- .. a make that enters. -/
theorem fin_put (h0 : St w L bm M n S F (mrow F H k) (trow tg k) H k k D) (hi : Inv D S F T tg H k) (hF : F k = false) (hT : T k = false) (hs : (S k).size ≤ maxLen)
    (hW : St W L bm M n S F (fun j => if j = k then .pointer (some ⟨p, 0, none⟩) else mrow F H k j) (fun j => if j = k then .int .i64 (-1) else trow tg k j) H k (k + 1) (D.put (key (S k)) (.lit (.int .i64 p)))) (hp : HoldAt W p (S k)) (hpw : w.heap.size ≤ p) : At6 W L bm M n S F T (k + 1) := by
  refine ⟨fun x => if x = k then -1 else tg x, fun x => if x = k then p else H x, _, (St.made h0 hW hp hpw).rows (fun j _ => mrow_make F H k j p hF) (fun j _ => trow_step tg k j (-1)) (Nat.le_refl _), ?_⟩
  have := inv_put (H' := fun x => if x = k then p else H x) (inv_congr hi (tg_old (-1))) hF hT (fun r => by simp only [if_true]; omega) H_old hs
  simpa using this

/-- .. a forget of a hold that never entered. -/
theorem fin_fresh (hi : Inv D S F T tg H k) (hF : F k = true)
    (hW : St W L bm M n S F (mrow F H k) (fun j => if j = k then .int .i64 (-1) else trow tg k j) H k k D) : At6 W L bm M n S F T (k + 1) := by
  refine ⟨fun x => if x = k then -1 else tg x, H, D, (hW.pass hF).rows (fun j _ => mrow_pass F H k j hF) (fun j _ => trow_step tg k j (-1)) (Nat.le_succ k), ?_⟩
  exact inv_same (inv_congr hi (tg_old (-1))) (Or.inl hF) (fun s r _ => by simp only [if_true]; omega) (fun _ _ => rfl)

/-- .. a forget of make m. -/
theorem fin_target {m : Nat} (h0 : St w L bm M n S F (mrow F H k) (trow tg k) H k k D) (hi : Inv D S F T tg H k) (hF : F k = true) (hm : m < k) (hFm : F m = false) (hSm : S m = S k)
    (hW : St W L bm M n S F (mrow F H k) (fun j => if j = k then .int .i64 m else trow tg k j) H k k (forgot D (S k) (H m))) : At6 W L bm M n S F T (k + 1) := by
  refine ⟨fun x => if x = k then (m : Int) else tg x, H, _, (hW.pass hF).rows (fun j _ => mrow_pass F H k j hF) (fun j _ => trow_step tg k j m) (Nat.le_succ k), ?_⟩
  have hi' := inv_congr hi (tg_old (m : Int))
  by_cases ha : Alive S F T (fun x => if x = k then (m : Int) else tg x) k (S k) m
  · rw [forgot_live hi' ha]
    exact inv_del hi' hF (by simp only [if_true]) ha (fun _ _ => rfl)
  · rw [forgot_other hi' (S k) (H m) (fun r hr e => ha (by
      have e1 := h0.inj hr.1.1 hm hr.1.2.1 hFm e
      rw [e1] at hr; exact hr))]
    refine inv_same hi' (Or.inl hF) (fun s r hr => ?_) (fun _ _ => rfl)
    simp only [if_true]
    intro e
    have e' : m = r := by omega
    subst e'
    exact ha (by rw [← hSm, hr.1.2.2.2.1]; exact hr)

end

set_option maxHeartbeats 8000000 in
set_option maxRecDepth 100000 in
theorem law6_row (b off n cap : Nat) (S : Nat → ByteArray) (F T : Nat → Bool) (w : World) (hn : n ≤ 9223372036854775807) (hb : b < w.heap.size) (hN : Hid (Steps w b off n S F T)) :
    Calls Try.prog 4 #[.slice (some ⟨b, off, none⟩) n cap] w fun e w' => e = .returned (.bool true) ∧ Below w.heap.size w w' := by
  have HB : Hid (Calls Try.prog 10 #[.slice (some ⟨b, off, none⟩) n cap] w fun e w' => ByPost6 n S w e w') := bytes6_any b off n cap S F T w hn hN
  by_cases h4 : 4096 < n
  · go_enter Try.func4, Try.ntmps4
    go_wp2_with fail
    refine HB.out.mono ?_
    rintro e w' ⟨q, rfl, hw, _⟩
    subst hw
    cases q
    · go_wp2_with fail
      go_ret
      exact ⟨rfl, Below.refl _ _⟩
    · go_wp2_with fail
      go_ret
      exact ⟨rfl, Below.refl _ _⟩
  · have hmk := make35 n (by omega)
    have hmt := make3 n (by omega)
    go_enter Try.func4, Try.ntmps4
    go_wp2_with fail
    refine HB.out.mono ?_
    rintro e w' ⟨q, rfl, hw, hsz⟩
    subst hw
    cases q
    · go_wp2_with fail
      go_ret
      exact ⟨rfl, Below.refl _ _⟩
    · have HSZ : Hid (∀ i, i < n → (S i).size ≤ 1048576) := hsz rfl
      clear hsz HB
      go_wp2_with fail
      go_loop [3, 4] (fun t i => ∃ j : Nat, ∃ c : Int, j ≤ n ∧ i = .int .i64 j ∧ t = .int .i64 c ∧ 0 ≤ c ∧ c ≤ 1048576) (fun _ i => n - (intOf i).toNat)
      case atStart => exact ⟨0, _, Nat.zero_le _, rfl, rfl, by omega, by omega⟩
      case round =>
        obtain ⟨j, c, hj, rfl, rfl, hc0, hc1⟩ := hrel
        by_cases hlt : j < n
        · have hlt' : (j : Int) < (n : Int) := by omega
          obtain ⟨c0, _, _, _⟩ := hN.out j hlt
          have hs1 := HSZ.out j hlt
          generalize S j = s at *
          by_cases h3 : 1048576 < c + (s.size : Int)
          · go_wp2_with fail
            go_ret
            exact ⟨rfl, Below.refl _ _⟩
          · go_wp2_with fail
            go_round
            case rel => exact ⟨j + 1, _, by omega, by go_num, rfl, by omega, by omega⟩
            case measure => simp [intOf]; omega
        · clear HSZ
          go_wp2_with fail
          refine (newlocker_any _ _).mono ?_
          rintro e w1 ⟨rfl, hlk1, hod1, hb1, hsz1⟩
          have hmy : At6 ((w1.alloc (.cells (madeCells #[.pointer none] n) 35)).alloc (.cells (madeCells #[.int .i64 0] n) 3)) (w'.heap.size + 1) w'.heap.size w1.heap.size n S F T 0 := by
            refine ⟨fun _ => -1, fun _ => 0, .map [], ⟨(hlk1.fr (Fr.alloc _ _ 0 0) ?_ ?_).fr (Fr.alloc _ _ 0 0) ?_ ?_, ((World.rowIs_made w1 (.pointer none) n 35).congr fun j _ => by simp [mrow]).alloc _, ?_, fun j hj => absurd hj (Nat.not_lt_zero j), fun i j _ hj => absurd hj (Nat.not_lt_zero j), (hod1.alloc _).alloc _, by omega, by omega, by simp⟩, inv_start S F T _ _⟩
            all_goals first | omega | skip
            have := (World.rowIs_made (w1.alloc (.cells (madeCells #[.pointer none] n) 35)) (.int .i64 0) n 3).congr (g := trow (fun _ => -1) 0) fun j _ => by simp [trow]
            simpa using this
          have HM : Hid (At6 ((w1.alloc (.cells (madeCells #[.pointer none] n) 35)).alloc (.cells (madeCells #[.int .i64 0] n) 3)) (w'.heap.size + 1) w'.heap.size w1.heap.size n S F T 0) := hmy
          clear hmy hlk1 hod1
          have hb2 : Below w'.heap.size w' ((w1.alloc (.cells (madeCells #[.pointer none] n) 35)).alloc (.cells (madeCells #[.int .i64 0] n) 3)) := (hb1.alloc hb1.size _).alloc (by have := hb1.size; simp; omega) _
          generalize hLe : w'.heap.size + 1 = L at *
          generalize hMe : w1.heap.size = M at *
          have hL0 : w'.heap.size < L := by omega
          have hLM : L < M := by omega
          have HH : Hid (w1.heap.size = M) := hMe
          clear hLe hlt hj hc0 hc1 hb1 hsz1
          go_wp2_with fail
          clear hMe hmk hmt
          go_loopw [8] (fun i wr => ∃ k : Nat, k ≤ n ∧ i = .int .i64 k ∧ At6 wr L w'.heap.size M n S F T k ∧ Below w'.heap.size w' wr) (fun i _ => n - (intOf i).toNat)
          case atStart => exact ⟨0, Nat.zero_le _, rfl, HM.out, hb2⟩
          case round =>
            obtain ⟨k, hk, rfl, hat, hbr⟩ := hrel
            have HA : Hid (At6 wr L w'.heap.size M n S F T k) := hat
            clear hat HM hb2
            by_cases hlt : k < n
            · obtain ⟨tg, H, D, hst, hinv⟩ := HA.out
              have hlt' : (k : Int) < (n : Int) := by omega
              have hk0 : (0 : Int) ≤ (k : Int) := by omega
              obtain ⟨c0, c1, c2, hm⟩ := (hN.out.below hbr hb) k hlt
              have r0 := hst.row.cell hlt
              have f0 := hst.row.frozen k
              have t0 := hst.trow.cell hlt
              have g0 := hst.trow.frozen k
              have hMlt : M + 1 < wr.heap.size := by have := hst.sz; omega
              have hMlt0 : M < wr.heap.size := by omega
              have hbwr : b < wr.heap.size := Nat.lt_of_lt_of_le hb hbr.size
              have hbM : b ≠ M := by omega
              have hbM1 : b ≠ M + 1 := by omega
              generalize mrow F H k k = v0 at r0
              generalize trow tg k k = v1 at t0
              have HST : Hid (St wr L w'.heap.size M n S F (mrow F H k) (trow tg k) H k k D ∧ Inv D S F T tg H k) := ⟨hst, hinv⟩
              have HSM : Hid ((S k).size ≤ maxLen) := hm
              clear hst hinv HA hm
              generalize hse : S k = s at c0
              have HSE : Hid (S k = s) := hse
              clear hse
              cases hF : F k with
              | false =>
                have HF : Hid (F k = false) := hF
                rw [hF] at c1
                clear hF
                cases hT : T k with
                | true =>
                  have HT : Hid (T k = true) := hT
                  rw [hT] at c2
                  clear hT
                  go_wp2_with fail
                  refine (newhold_any L s _).mono ?_
                  rintro e w2 ⟨ch, hch, rfl, rfl⟩
                  go_wp2_with fail
                  go_roundw
                  case rel =>
                    obtain ⟨hst, hinv⟩ := HST.out
                    have hW := ((hst.setT k (.int .i64 (-1))).setM k (.pointer (some ⟨wr.heap.size, 0, none⟩))).new ch
                    refine ⟨k + 1, by omega, by go_num, fin_stale hst hinv HF.out HT.out hW ?_ (Nat.le_refl _), ((hbr.setCell (by show w'.heap.size ≤ M + 1; omega) _).setCell (by show w'.heap.size ≤ M; omega) _).alloc (by have := hbr.size; simp; omega) _⟩
                    have := hold_new ((wr.setCell ⟨M + 1, k, none⟩ (.int .i64 (-1))).setCell ⟨M, k, none⟩ (.pointer (some ⟨wr.heap.size, 0, none⟩))) ch s hch
                    rw [HSE.out]
                    simpa using this
                  case measure => simp [intOf]; omega
                | false =>
                  have HT : Hid (T k = false) := hT
                  rw [hT] at c2
                  clear hT
                  go_wp2_with fail
                  refine (newhold_any L s _).mono ?_
                  rintro e w2 ⟨ch, hch, rfl, rfl⟩
                  go_wp2_with fail
                  obtain ⟨hst, hinv⟩ := HST.out
                  have hW : St (((wr.setCell ⟨M + 1, k, none⟩ (.int .i64 (-1))).setCell ⟨M, k, none⟩ (.pointer (some ⟨wr.heap.size, 0, none⟩))).alloc (.cells ch 86)) L w'.heap.size M n S F (fun j => if j = k then .pointer (some ⟨wr.heap.size, 0, none⟩) else mrow F H k j) (fun j => if j = k then .int .i64 (-1) else trow tg k j) H k k D := ((hst.setT k (.int .i64 (-1))).setM k (.pointer (some ⟨wr.heap.size, 0, none⟩))).new ch
                  have hh : HoldAt (((wr.setCell ⟨M + 1, k, none⟩ (.int .i64 (-1))).setCell ⟨M, k, none⟩ (.pointer (some ⟨wr.heap.size, 0, none⟩))).alloc (.cells ch 86)) wr.heap.size s := by
                    have := hold_new ((wr.setCell ⟨M + 1, k, none⟩ (.int .i64 (-1))).setCell ⟨M, k, none⟩ (.pointer (some ⟨wr.heap.size, 0, none⟩))) ch s hch
                    simpa using this
                  have hbW : Below w'.heap.size w' (((wr.setCell ⟨M + 1, k, none⟩ (.int .i64 (-1))).setCell ⟨M, k, none⟩ (.pointer (some ⟨wr.heap.size, 0, none⟩))).alloc (.cells ch 86)) := ((hbr.setCell (by show w'.heap.size ≤ M + 1; omega) _).setCell (by show w'.heap.size ≤ M; omega) _).alloc (by have := hbr.size; simp; omega) _
                  have hsm : s.size ≤ maxLen := by rw [← HSE.out]; exact HSM.out
                  refine (register_any L w'.heap.size wr.heap.size k s D _ hW.lk hW.od (by unfold maxLen; omega) hh.cell hsm).mono ?_
                  rintro e w3 ⟨rfl, o3, f3⟩
                  have HFIN : Hid (At6 w3 L w'.heap.size M n S F T (k + 1) ∧ Below w'.heap.size w' w3) := by
                    refine ⟨fin_put hst hinv HF.out HT.out HSM.out (p := wr.heap.size) ?_ ?_ (Nat.le_refl _), hbW.trans (f3.below hbW.size (by omega) (by omega))⟩
                    · rw [HSE.out]; exact hW.reg f3 o3
                    · rw [HSE.out]
                      have := hbr.size
                      exact hh.fr f3 (by have := hst.sz; omega) (by have := hst.sz; omega)
                  clear hW hh hbW o3 f3 hst hinv
                  go_wp2_with fail
                  go_roundw
                  case rel => exact ⟨k + 1, by omega, by go_num, HFIN.out.1, HFIN.out.2⟩
                  case measure => simp [intOf]; omega
              | true =>
                have HF : Hid (F k = true) := hF
                rw [hF] at c1
                clear hF
                have hbW0 : Below w'.heap.size w' (wr.setCell ⟨M + 1, k, none⟩ (.int .i64 (-1))) := hbr.setCell (by show w'.heap.size ≤ M + 1; omega) _
                have HFR : Hid (∀ ch : Array Value, ch[1]? = some (.string s) → Calls Try.prog 15 #[.pointer (some ⟨L, 0, none⟩), .pointer (some ⟨wr.heap.size, 0, none⟩)] ((wr.setCell ⟨M + 1, k, none⟩ (.int .i64 (-1))).alloc (.cells ch 86)) fun e w3 => e = .returned (.tuple #[]) ∧ At6 w3 L w'.heap.size M n S F T (k + 1) ∧ Below w'.heap.size w' w3) := by
                  intro ch hch
                  obtain ⟨hst, hinv⟩ := HST.out
                  have hW : St ((wr.setCell ⟨M + 1, k, none⟩ (.int .i64 (-1))).alloc (.cells ch 86)) L w'.heap.size M n S F (mrow F H k) (fun j => if j = k then .int .i64 (-1) else trow tg k j) H k k D := (hst.setT k (.int .i64 (-1))).new ch
                  have hh : HoldAt ((wr.setCell ⟨M + 1, k, none⟩ (.int .i64 (-1))).alloc (.cells ch 86)) wr.heap.size s := by
                    have := hold_new (wr.setCell ⟨M + 1, k, none⟩ (.int .i64 (-1))) ch s hch
                    simpa using this
                  have hsm : s.size ≤ maxLen := by rw [← HSE.out]; exact HSM.out
                  obtain ⟨q1, q2⟩ := inv_ptr hW hinv s
                  have hsz := hst.sz
                  refine (zzforget_any L w'.heap.size wr.heap.size k s D _ hW.lk hW.od hh hsm (by omega) (by omega) q1 q2).mono ?_
                  rintro e w3 ⟨rfl, hl3, ho3, hf3⟩
                  rw [forgot_other hinv s wr.heap.size (fun r hr e => by have := (hst.holds r hr.1.1 hr.1.2.1).1.lt; omega)] at ho3
                  have hbA : Below w'.heap.size w' ((wr.setCell ⟨M + 1, k, none⟩ (.int .i64 (-1))).alloc (.cells ch 86)) := hbW0.alloc (by have := hbr.size; simp; omega) _
                  exact ⟨rfl, fin_fresh hinv HF.out (hW.fr hf3 hl3 ho3), hbA.trans (hf3.below hbA.size (by omega) (by omega))⟩
                cases hT : T k with
                | true =>
                  rw [hT] at c2
                  clear hT
                  go_wp2_with fail
                  refine (newhold_any L s _).mono ?_
                  rintro e w2 ⟨ch, hch, rfl, rfl⟩
                  go_wp2_with fail
                  refine (HFR.out ch hch).mono ?_
                  rintro e w3 ⟨rfl, hA3, hb3⟩
                  have HFIN : Hid (At6 w3 L w'.heap.size M n S F T (k + 1) ∧ Below w'.heap.size w' w3) := ⟨hA3, hb3⟩
                  clear hA3 hb3
                  go_wp2_with fail
                  go_roundw
                  case rel => exact ⟨k + 1, by omega, by go_num, HFIN.out.1, HFIN.out.2⟩
                  case measure => simp [intOf]; omega
                | false =>
                  rw [hT] at c2
                  clear hT
                  have HNS : Hid (Steps (wr.setCell ⟨M + 1, k, none⟩ (.int .i64 (-1))) b off n S F T) := hN.out.below hbW0 hb
                  go_wp2_with fail
                  refine (lastmake_any b off n cap k s S F T _ (by omega) (by omega) HNS).mono ?_
                  rintro e w2 ⟨hw2, hpost⟩
                  subst hw2
                  rcases hpost with rfl | ⟨m, rfl, hm1, hm2, hm3⟩
                  · go_wp2_with fail
                    refine (newhold_any L s _).mono ?_
                    rintro e w2 ⟨ch, hch, rfl, rfl⟩
                    go_wp2_with fail
                    refine (HFR.out ch hch).mono ?_
                    rintro e w3 ⟨rfl, hA3, hb3⟩
                    have HFIN : Hid (At6 w3 L w'.heap.size M n S F T (k + 1) ∧ Below w'.heap.size w' w3) := ⟨hA3, hb3⟩
                    clear hA3 hb3
                    go_wp2_with fail
                    go_roundw
                    case rel => exact ⟨k + 1, by omega, by go_num, HFIN.out.1, HFIN.out.2⟩
                    case measure => simp [intOf]; omega
                  · clear HFR
                    have HMM : Hid (F m = false ∧ S m = s) := ⟨hm2, hm3⟩
                    clear hm2 hm3
                    obtain ⟨hst, hinv⟩ := HST.out
                    have rm := hst.row.cell (i := m) (by omega)
                    rw [show mrow F H k m = .pointer (some ⟨H m, 0, none⟩) from by unfold mrow; rw [if_pos ⟨hm1, HMM.out.1⟩]] at rm
                    have hmn : (m : Int) < (n : Int) := by omega
                    have hm0 : (0 : Int) ≤ (m : Int) := by omega
                    clear hst hinv
                    go_wp2_with fail
                    obtain ⟨hst, hinv⟩ := HST.out
                    have hW : St ((wr.setCell ⟨M + 1, k, none⟩ (.int .i64 (-1))).setCell ⟨M + 1, k, none⟩ (.int .i64 m)) L w'.heap.size M n S F (mrow F H k) (fun j => if j = k then .int .i64 m else trow tg k j) H k k D :=
                      ((hst.setT k (.int .i64 (-1))).setT k (.int .i64 m)).rows (fun _ _ => rfl) (fun j _ => by by_cases e : j = k <;> simp [e]) (Nat.le_refl _)
                    have hbW : Below w'.heap.size w' ((wr.setCell ⟨M + 1, k, none⟩ (.int .i64 (-1))).setCell ⟨M + 1, k, none⟩ (.int .i64 m)) := hbW0.setCell (by show w'.heap.size ≤ M + 1; omega) _
                    have hsm : s.size ≤ maxLen := by rw [← HSE.out]; exact HSM.out
                    obtain ⟨q1, q2⟩ := inv_ptr hW hinv s
                    have hhm := hW.holds m hm1 HMM.out.1
                    rw [HMM.out.2] at hhm
                    refine (zzforget_any L w'.heap.size (H m) k s D _ hW.lk hW.od hhm.1 hsm (by have := hhm.2; omega) (by have := hhm.2; omega) q1 q2).mono ?_
                    rintro e w3 ⟨rfl, hl3, ho3, hf3⟩
                    have HFIN : Hid (At6 w3 L w'.heap.size M n S F T (k + 1) ∧ Below w'.heap.size w' w3) := by
                      refine ⟨fin_target hst hinv HF.out hm1 HMM.out.1 (by rw [HMM.out.2, HSE.out]) (W := w3) ?_, hbW.trans (hf3.below hbW.size (by omega) (by omega))⟩
                      rw [HSE.out]
                      exact hW.fr hf3 hl3 ho3
                    clear hW hbW hst hinv hl3 ho3 hf3 q1 q2 hhm
                    go_wp2_with fail
                    go_roundw
                    case rel => exact ⟨k + 1, by omega, by go_num, HFIN.out.1, HFIN.out.2⟩
                    case measure => simp [intOf]; omega
            · have hkn : n = k := by omega
              subst hkn
              obtain ⟨tg, H, D, hst, hinv⟩ := HA.out
              clear HA hlt hk
              have tD := hst.od.tidy law9
              have HNr : Hid (Steps wr b off n S F T) := hN.out.below hbr hb
              have HST : Hid (St wr L w'.heap.size M n S F (mrow F H n) (trow tg n) H n n D ∧ Inv D S F T tg H n) := ⟨hst, hinv⟩
              have hcnt : Maps.size D = cnt D S n := size_cnt n (fun i hi => (HNr.out i hi).2.2.2) n (Nat.le_refl _) D tD hinv.keys
              have CL : Hid (Calls Try.prog 18 #[.pointer (some ⟨L, 0, none⟩)] wr fun e w' => e = .returned (.int .i64 (cnt D S n)) ∧ w' = wr) := by
                have := holdslen_any L w'.heap.size n D wr hst.lk hst.od
                rw [hcnt] at this
                exact this
              have CO : Hid (∀ s : ByteArray, s.size ≤ maxLen → Calls Try.prog 17 #[.pointer (some ⟨L, 0, none⟩), .string s] wr fun e w' => e = .returned (under D s) ∧ w' = wr) := fun s hs => holdof_any L w'.heap.size n s D wr hst.lk hst.od hs
              clear hcnt tD hst hinv hN
              go_wp2_with fail
              go_loop [13, 14] (fun t i => ∃ k : Nat, k ≤ n ∧ i = .int .i64 k ∧ t = .int .i64 (cnt D S k)) (fun _ i => n - (intOf i).toNat)
              case atStart => exact ⟨0, Nat.zero_le _, rfl, rfl⟩
              case round =>
                obtain ⟨i, hi, rfl, rfl⟩ := hrel
                by_cases hlt : i < n
                · have hlt' : (i : Int) < (n : Int) := by omega
                  have hi0 : (0 : Int) ≤ (i : Int) := by omega
                  obtain ⟨c0, _, _, hm⟩ := HNr.out i hlt
                  have HO := CO.out (S i) hm
                  have hcle : cnt D S i ≤ i := cnt_le D S i
                  have HC1 : Hid (cnt D S (i + 1) = cnt D S i + (if fst S i && Maps.has D (key (S i)) then 1 else 0)) := rfl
                  go_wp2_with fail
                  refine (seen_any b off n cap i (S i) S F T _ (by omega) (by omega) HNr).mono ?_
                  rintro e w2 ⟨q, rfl, hw2, hq1, hq2⟩
                  subst hw2
                  cases q
                  · have hfst : fst S i = true := fst_true (hq2 rfl)
                    clear hq1 hq2
                    rw [hfst] at HC1
                    go_wp2_with fail
                    have HDEAD : Hid ((∀ r, ¬ Alive S F T tg n (S i) r) → cnt D S (i + 1) = cnt D S i ∧ Calls Try.prog 17 #[.pointer (some ⟨L, 0, none⟩), .string (S i)] w2 fun e w' => e = .returned (.pointer none) ∧ w' = w2) := by
                      intro hd
                      refine ⟨by rw [HC1.out, HST.out.2.dead (S i) hd]; simp, ?_⟩
                      have h1 := HO
                      rw [inv_under_dead HST.out.2 hd] at h1
                      exact h1
                    have HLIVE : Hid (∀ r, Alive S F T tg n (S i) r → cnt D S (i + 1) = cnt D S i + 1 ∧ PtrIn w2 (.pointer (some ⟨H r, 0, none⟩)) ∧ Calls Try.prog 17 #[.pointer (some ⟨L, 0, none⟩), .string (S i)] w2 fun e w' => e = .returned (.pointer (some ⟨H r, 0, none⟩)) ∧ w' = w2) := by
                      intro r hr
                      refine ⟨by rw [HC1.out, (HST.out.2.live (S i) r hr).1]; simp, (HST.out.1.holds r hr.1.1 hr.1.2.1).1.ptr, ?_⟩
                      have h1 := HO
                      rw [inv_under_live HST.out.2 hr] at h1
                      exact h1
                    have hnn := neq_run (w := w2) (Or.inl rfl) (Or.inl rfl : PtrIn w2 (.pointer none))
                    rw [show eqv (.pointer none) (.pointer none) = true from rfl] at hnn
                    have HCI : Hid (cnt D S i = cnt D S i) := rfl
                    clear hfst HC1 HO c0
                    obtain ⟨s, hs⟩ : ∃ s, S i = s := ⟨_, rfl⟩
                    have HS : Hid (S i = s) := hs
                    rw [hs] at HDEAD HLIVE ⊢
                    clear hs
                    go_loop [16, 17] (fun r j => ∃ x : Nat, x ≤ n ∧ r = .int .i64 (-1) ∧ j = .int .i64 ((x : Int) - 1) ∧ Hid (∀ y, x ≤ y → y < n → F y = false → T y = false → S y ≠ s)) (fun _ j => (intOf j + 1).toNat)
                    case atStart => exact ⟨n, Nat.le_refl _, rfl, rfl, fun y h1 h2 => absurd h2 (Nat.not_lt_of_le h1)⟩
                    case round =>
                      obtain ⟨x', hx, rfl, rfl, HNO⟩ := hrel
                      cases x' with
                      | zero =>
                        obtain ⟨hc1, HC17⟩ := HDEAD.out (fun r hr => HNO.out r (Nat.zero_le _) hr.1.1 hr.1.2.1 hr.1.2.2.1 hr.1.2.2.2.1)
                        have HC1 : Hid (cnt D S (i + 1) = cnt D S i) := hc1
                        clear hc1
                        go_wp2_with fail
                        refine HC17.mono ?_
                        rintro e w3 ⟨rfl, hw3⟩
                        subst hw3
                        go_wp2_with fail
                        go_round
                        case rel => exact ⟨i + 1, by omega, by go_num, by rw [HC1.out]⟩
                        case measure => simp [intOf]; omega
                      | succ x =>
                        rw [show (((x + 1 : Nat) : Int) - 1) = (x : Int) from by omega]
                        have hxn : (x : Int) < (n : Int) := by omega
                        have hx0 : (0 : Int) ≤ (x : Int) := by omega
                        obtain ⟨c0, c1, c2, _⟩ := HNr.out x (by omega)
                        cases hF : F x with
                        | true =>
                          rw [hF] at c1
                          have HNO2 : Hid (∀ y, x ≤ y → y < n → F y = false → T y = false → S y ≠ s) := fun y h1 h2 h3 h4 => by
                            rcases Nat.lt_or_eq_of_le h1 with h | rfl
                            · exact HNO.out y h h2 h3 h4
                            · rw [hF] at h3; cases h3
                          clear hF
                          generalize S x = sx at c0
                          generalize T x = tx at c2
                          go_wp2_with fail
                          go_round
                          case rel => exact ⟨x, by omega, rfl, rfl, HNO2⟩
                          case measure => simp [intOf]
                        | false =>
                          rw [hF] at c1
                          cases hT : T x with
                          | true =>
                            rw [hT] at c2
                            have HNO2 : Hid (∀ y, x ≤ y → y < n → F y = false → T y = false → S y ≠ s) := fun y h1 h2 h3 h4 => by
                              rcases Nat.lt_or_eq_of_le h1 with h | rfl
                              · exact HNO.out y h h2 h3 h4
                              · rw [hT] at h4; cases h4
                            clear hF hT
                            generalize S x = sx at c0
                            go_wp2_with fail
                            go_round
                            case rel => exact ⟨x, by omega, rfl, rfl, HNO2⟩
                            case measure => simp [intOf]
                          | false =>
                            rw [hT] at c2
                            by_cases he : S x = s
                            · have HREG : Hid (LastReg S F T n s x) := ⟨by omega, hF, hT, he, fun y h1 h2 h3 h4 => HNO.out y h1 h2 h3 h4⟩
                              rw [he] at c0
                              have hr := HST.out.1.row.cell (i := x) (by omega)
                              rw [show mrow F H n x = .pointer (some ⟨H x, 0, none⟩) from by unfold mrow; rw [if_pos ⟨by omega, hF⟩]] at hr
                              clear he hF hT HNO
                              go_wp2_with fail
                              clear c0 c1 c2 hr
                              go_loop [18, 19] (fun v j => ∃ y : Nat, x + 1 ≤ y ∧ y ≤ n ∧ v = .pointer (some ⟨H x, 0, none⟩) ∧ j = .int .i64 y ∧ Hid (∀ z, x < z → z < y → tg z ≠ (x : Int))) (fun _ j => n - (intOf j).toNat)
                              case atStart => exact ⟨x + 1, Nat.le_refl _, by omega, rfl, by go_num, fun z h1 h2 => absurd h2 (by omega)⟩
                              case round =>
                                obtain ⟨y, hy1, hy2, rfl, rfl, HNK⟩ := hrel
                                by_cases hyn : y < n
                                · have hyn' : (y : Int) < (n : Int) := by omega
                                  have hy0 : (0 : Int) ≤ (y : Int) := by omega
                                  have ht := HST.out.1.trow.cell (i := y) hyn
                                  rw [show trow tg n y = .int .i64 (tg y) from by unfold trow; rw [if_pos hyn]] at ht
                                  by_cases hk : tg y = (x : Int)
                                  · obtain ⟨hc1, HC17⟩ := HDEAD.out (fun r hr => hr.2 (by rw [reg_uniq hr.1 HREG.out]; exact ⟨y, by omega, hyn, hk⟩))
                                    have HC1 : Hid (cnt D S (i + 1) = cnt D S i) := hc1
                                    have hq : (tg y == (x : Int)) = true := by simp [hk]
                                    clear hc1 hk
                                    generalize tg y = ty at ht hq
                                    go_wp2_with fail
                                    refine HC17.mono ?_
                                    rintro e w3 ⟨rfl, hw3⟩
                                    subst hw3
                                    go_wp2_with fail
                                    go_round
                                    case rel => exact ⟨i + 1, by omega, by go_num, by rw [HC1.out]⟩
                                    case measure => simp [intOf]; omega
                                  · have hq : (tg y == (x : Int)) = false := by simp [hk]
                                    have HNK2 : Hid (∀ z, x < z → z < y + 1 → tg z ≠ (x : Int)) := fun z h1 h2 => by
                                      rcases Nat.lt_or_eq_of_le (Nat.le_of_lt_succ h2) with h | rfl
                                      · exact HNK.out z h1 h
                                      · exact hk
                                    clear hk
                                    generalize tg y = ty at ht hq
                                    go_wp2_with fail
                                    go_round
                                    case rel => exact ⟨y + 1, by omega, by omega, rfl, by go_num, HNK2⟩
                                    case measure => simp [intOf]; omega
                                · obtain ⟨hc1, hpt, HC17⟩ := HLIVE.out x ⟨HREG.out, fun ⟨z, h1, h2, h3⟩ => HNK.out z h1 (by omega) h3⟩
                                  have HC1 : Hid (cnt D S (i + 1) = cnt D S i + 1) := hc1
                                  have hneq := neq_run hpt hpt
                                  rw [show eqv (.pointer (some ⟨H x, 0, none⟩)) (.pointer (some ⟨H x, 0, none⟩)) = true from by simp [eqv]] at hneq
                                  have hneq0 := neq_run hpt (Or.inl rfl : PtrIn w2 (.pointer none))
                                  rw [show eqv (.pointer (some ⟨H x, 0, none⟩)) (.pointer none) = false from rfl] at hneq0
                                  clear hc1 hpt
                                  go_wp2_with fail
                                  refine HC17.mono ?_
                                  rintro e w3 ⟨rfl, hw3⟩
                                  subst hw3
                                  go_wp2_with fail
                                  go_round
                                  case rel => exact ⟨i + 1, by omega, by go_num, by rw [HC1.out]; go_num⟩
                                  case measure => simp [intOf]; omega
                            · have hq := str_ne he
                              have HNO2 : Hid (∀ y, x ≤ y → y < n → F y = false → T y = false → S y ≠ s) := fun y h1 h2 h3 h4 => by
                                rcases Nat.lt_or_eq_of_le h1 with h | rfl
                                · exact HNO.out y h h2 h3 h4
                                · exact he
                              clear hF hT he
                              generalize S x = sx at c0 hq
                              go_wp2_with fail
                              go_round
                              case rel => exact ⟨x, by omega, rfl, rfl, HNO2⟩
                              case measure => simp [intOf]
                  · obtain ⟨x, hx, hxe⟩ := hq1 rfl
                    have hfst : fst S i = false := fst_false hx hxe
                    rw [hfst] at HC1
                    clear hq1 hq2 hxe hfst
                    go_wp2_with fail
                    go_round
                    case rel => exact ⟨i + 1, by omega, by go_num, by rw [HC1.out]; simp⟩
                    case measure => simp [intOf]; omega
                · have hin : n = i := by omega
                  subst hin
                  go_wp2_with fail
                  refine CL.out.mono ?_
                  rintro e w2 ⟨rfl, hw2⟩
                  subst hw2
                  go_wp2_with fail
                  go_ret
                  exact ⟨rfl, hbr⟩

end Go.Proofs.Qxb6616530a
