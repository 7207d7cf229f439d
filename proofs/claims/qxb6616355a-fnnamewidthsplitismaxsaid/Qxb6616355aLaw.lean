/-
  THE WALK OF THE LAW FnNameWidthSplitIsMax.
-/
import Derived.Test.Qxb6616355aBuild
namespace Go.Proofs.Qxb6616355a
open Go.RowKit Plain

theorem szl_append {α : Type} (g : α → Nat) : ∀ (l r : List (Int × Nat × α)), szl g (l ++ r) = szl g l + szl g r
  | [], r => by simp [szl]
  | e :: l, r => by
    show 48 + e.2.1 + g e.2.2 + szl g (l ++ r) = 48 + e.2.1 + g e.2.2 + szl g l + szl g r
    rw [szl_append g l r]; omega

theorem szl_parts {α : Type} (g : α → Nat) (l : List (Int × Nat × α)) (k : Nat) : szl g (l.take k) ≤ szl g l ∧ szl g (l.drop k) ≤ szl g l := by
  have h := szl_append g (l.take k) (l.drop k)
  rw [List.take_append_drop] at h
  omega

theorem row_take {α : Type} {w : World} {R : α → Value → Prop} {l : List (Int × Nat × α)} {B n c k : Nat} (h : RowN w R l (.slice (some ⟨B, 0, none⟩) n n)) (hk : k ≤ l.length) :
    RowN w R (l.take k) (.slice (some ⟨B, 0, none⟩) k c) := by
  obtain ⟨a, cap, hv, hm, h⟩ := h
  have hl : (l.take k).length = k := by rw [List.length_take]; omega
  refine ⟨_, c, by rw [hl], by omega, ?_⟩
  cases hv
  rcases h with h | ⟨b, off, ha, hc⟩
  · left; subst h; simp
  · right
    refine ⟨b, off, ha, fun i e he => ?_⟩
    rw [List.getElem?_take] at he
    split at he
    · exact hc i e he
    · cases he

theorem row_drop {α : Type} {w : World} {R : α → Value → Prop} {l : List (Int × Nat × α)} {B n c k : Nat} (h : RowN w R l (.slice (some ⟨B, 0, none⟩) n n)) (hn : l.length = n) :
    RowN w R (l.drop k) (.slice (some ⟨B, k, none⟩) (n - k) c) := by
  obtain ⟨a, cap, hv, hm, h⟩ := h
  have hl : (l.drop k).length = n - k := by rw [List.length_drop]; omega
  refine ⟨_, c, by rw [hl], by omega, ?_⟩
  cases hv
  rcases h with h | ⟨b, off, ha, hc⟩
  · left; subst h; simp
  · right
    cases ha
    refine ⟨B, k, rfl, fun i e he => ?_⟩
    rw [List.getElem?_drop] at he
    obtain ⟨p, cp, hN⟩ := hc (k + i) e he
    rw [Nat.zero_add] at cp
    exact ⟨p, cp, hN⟩

/-- No node of the list is a choice. -/
def noCh {α : Type} (l : List (Int × Nat × α)) : Bool := l.all fun e => !(e.1 == 4)

theorem noCh_take {α : Type} {l : List (Int × Nat × α)} {k : Nat} {e : Int × Nat × α} (h : l[k]? = some e) : noCh (l.take (k + 1)) = (noCh (l.take k) && !(e.1 == 4)) := by
  obtain ⟨hk, rfl⟩ := List.getElem?_eq_some_iff.1 h
  rw [List.take_succ_eq_append_getElem hk]
  unfold noCh
  rw [List.all_append]; simp

theorem topl_take {α : Type} {l : List (Int × Nat × α)} {k : Nat} {e : Int × Nat × α} (h : l[k]? = some e) : topl 0 (l.take (k + 1)) = max (topl 0 (l.take k)) ((e.2.1 : Int) + 1) := by
  obtain ⟨hk, rfl⟩ := List.getElem?_eq_some_iff.1 h
  rw [List.take_succ_eq_append_getElem hk, topl_append]
  rfl

theorem topl_ge {α : Type} : ∀ (l : List (Int × Nat × α)) (m : Int), m ≤ topl m l
  | [], _ => Int.le_refl _
  | e :: r, m => by
    have := topl_ge r (max m ((e.2.1 : Int) + 1))
    unfold topl; omega

theorem noCh_law {α : Type} (f : α → List Int) (l : List (Int × Nat × α)) (h : noCh l = true) : foldW f 0 l = topl 0 l := by
  refine (topl_eq f l 0 fun e he => ?_).symm
  unfold noCh at h
  have := List.all_eq_true.1 h e he
  simpa using this

set_option maxHeartbeats 2000000 in
set_option maxRecDepth 100000 in
theorem law_row (d : Nat) (l : List (Int × Nat × T d)) (b off cap n : Nat) (cut : Int) (w : World) (hn : Hid (l.length = n)) (hm : n ≤ 9223372036854775807)
    (hc : Hid (∀ (i : Nat) (e : Int × Nat × T d), l[i]? = some e → ZAt w (Lies w d) b (off + i * 3) e)) :
    Calls Try.prog 3 #[.slice (some ⟨b, off, none⟩) n cap, .int .i64 cut] w fun e w' => e = .returned (.bool true) ∧ Below w.heap.size w w' := by
  have HBY : Hid (Calls Try.prog 4 #[.slice (some ⟨b, off, none⟩) n cap, .int .i64 0] w fun e w' => e = .returned (.int .i64 (tb (d + 1) l 0)) ∧ w' = w) :=
    bytes_any w (d + 1) l _ 0 ⟨_, cap, by rw [hn.out], by rw [hn.out]; exact hm, Or.inr ⟨b, off, rfl, hc⟩⟩ (by omega) (by omega)
  have hbd := tb_bound (d + 1) l 0 (by omega) (by omega)
  have HEQ : Hid (tb (d + 1) l 0 ≤ 1048576 → tb (d + 1) l 0 = 0 + sz (d + 1) l) := tb_eq (d + 1) l 0 (by omega)
  generalize tb (d + 1) l 0 = r at *
  by_cases hr : 1048576 < r
  · go_enter Try.func3, Try.ntmps3
    go_wp2_with fail
    refine HBY.out.mono ?_
    rintro e w' ⟨rfl, hw⟩
    subst hw
    go_wp2_with fail
    go_ret
    exact ⟨rfl, Below.refl _ _⟩
  · by_cases hc1 : cut < 0
    · go_enter Try.func3, Try.ntmps3
      go_wp2_with fail
      refine HBY.out.mono ?_
      rintro e w' ⟨rfl, hw⟩
      subst hw
      go_wp2_with fail
      go_ret
      exact ⟨rfl, Below.refl _ _⟩
    · by_cases hc2 : (n : Int) < cut
      · go_enter Try.func3, Try.ntmps3
        go_wp2_with fail
        refine HBY.out.mono ?_
        rintro e w' ⟨rfl, hw⟩
        subst hw
        go_wp2_with fail
        go_ret
        exact ⟨rfl, Below.refl _ _⟩
      · have hs := HEQ.out (by omega)
        have hs' : szl (sz d) l ≤ 1048576 := by
          have : (szl (sz d) l : Int) = sz (d + 1) l := rfl
          omega
        have hlen := szl_length (sz d) l
        rw [hn.out] at hlen
        have hn2 : n ≤ 1048576 := by omega
        clear hs HEQ hlen
        obtain ⟨c, rfl⟩ := Int.eq_ofNat_of_zero_le (show 0 ≤ cut by omega)
        have HS : Hid (szl (sz d) l ≤ 1048576) := hs'
        clear hs'
        have HBU : Hid (∀ w1, Below w.heap.size w w1 → Calls Try.prog 5 #[.slice (some ⟨b, off, none⟩) n cap] w1 fun e w' => e = .returned (.slice (some ⟨w1.heap.size, 0, none⟩) n n) ∧ Sofar w' w1.heap.size n n (fun w base x v => Made w base d x v) l ∧ Below w1.heap.size w1 w') :=
          fun w1 hb1 => build_row (Lies w d) (fun w base x v => Made w base d x v) (sz d) w (fun w w' base base' x v hf hbb h => made_far hf hbb d x v h)
            (fun x v w2 h hg hb => build_any w d x v w2 h hg hb) l (fun e he => Nat.le_trans (by have := szl_mem (sz d) l e he; omega) HS.out) b off cap n hn hn2 hc w1 hb1
        go_enter Try.func3, Try.ntmps3
        go_wp2_with fail
        refine HBY.out.mono ?_
        rintro e w' ⟨rfl, hw⟩
        subst hw
        go_wp2_with fail
        refine (HBU.out _ (Below.refl _ _)).mono ?_
        rintro e w1 ⟨rfl, hso, hb1⟩
        have hbu : RowN w1 (Built w1 d) l (.slice (some ⟨w'.heap.size, 0, none⟩) n n) := made_built (d + 1) l _ (sofar_made hn.out hn2 hso)
        have hc3 : c ≤ n := by omega
        have hbl : RowN w1 (Built w1 d) (l.take c) (.slice (some ⟨w'.heap.size, 0, none⟩) c n) := row_take hbu (by rw [hn.out]; exact hc3)
        have hbr : RowN w1 (Built w1 d) (l.drop c) (.slice (some ⟨w'.heap.size, c, none⟩) (n - c) (n - c)) := row_drop hbu hn.out
        have hpt := szl_parts (sz d) l c
        have C1 : Hid (Calls Try.prog 6 #[.slice (some ⟨w'.heap.size, 0, none⟩) n n] w1 fun e w' => e = .returned (.int .i64 (foldW (fun x => (W d x).2) 0 l)) ∧ w' = w1) := zzwidth_any w1 (d + 1) l _ _ _ hbu HS.out
        have C2 : Hid (Calls Try.prog 6 #[.slice (some ⟨w'.heap.size, 0, none⟩) c n] w1 fun e w' => e = .returned (.int .i64 (foldW (fun x => (W d x).2) 0 (l.take c))) ∧ w' = w1) := zzwidth_any w1 (d + 1) (l.take c) _ _ _ hbl (Nat.le_trans hpt.1 HS.out)
        have hsp := fold_split (fun x => (W d x).2) l c
        have htl := topl_le (fun x => (W d x).2) l 0 0 (Int.le_refl _)
        have hnc := noCh_law (fun x => (W d x).2) l
        have hwb : foldW (fun x => (W d x).2) 0 l ≤ szl (sz d) l := (W_bounds (d + 1) l).1
        have hwb2 : foldW (fun x => (W d x).2) 0 l ≤ 1048576 := by have := HS.out; omega
        generalize foldW (fun x => (W d x).2) 0 l = wh at *
        generalize foldW (fun x => (W d x).2) 0 (l.take c) = lf at *
        have hR3 : (c < n ∧ Hid (Calls Try.prog 6 #[.slice (some ⟨w'.heap.size, c, none⟩) (n - c) (n - c)] w1 fun e w' => e = .returned (.int .i64 (foldW (fun x => (W d x).2) 0 (l.drop c))) ∧ w' = w1)) ∨
            (n = c ∧ Hid (Calls Try.prog 6 #[.slice (some ⟨w'.heap.size, 0, none⟩) 0 0] w1 fun e w' => e = .returned (.int .i64 (foldW (fun x => (W d x).2) 0 (l.drop c))) ∧ w' = w1)) := by
          rcases Nat.lt_or_eq_of_le hc3 with hcn | hcn
          · left
            exact ⟨hcn, zzwidth_any w1 (d + 1) (l.drop c) _ _ _ hbr (Nat.le_trans hpt.2 HS.out)⟩
          · right
            have hnil : l.drop c = [] := List.drop_of_length_le (by rw [hn.out]; omega)
            rw [hnil]
            exact ⟨hcn.symm, zzwidth_any w1 (d + 1) ([] : List (Int × Nat × T d)) _ _ _ ⟨_, _, rfl, by simp, Or.inl rfl⟩ (by show (0 : Nat) ≤ _; omega)⟩
        generalize foldW (fun x => (W d x).2) 0 (l.drop c) = rt at *
        have HT : Hid (topl 0 l ≤ wh) := htl
        have HN : Hid (noCh l = true → wh = topl 0 l) := hnc
        clear hbu hbl hbr hpt hso HBU HBY htl hnc hwb
        have hways : (lf < rt ∧ wh = rt) ∨ (rt ≤ lf ∧ wh = lf) := by omega
        clear hsp hc3
        rcases hR3 with ⟨hcn, C3⟩ | ⟨hcn, C3⟩
        case' inr => subst hcn
        all_goals rcases hways with ⟨hw1, rfl⟩ | ⟨hw1, rfl⟩
        all_goals
          go_wp2_with fail
          refine C1.out.mono ?_
          rintro e w2 ⟨rfl, rfl⟩
          go_wp2_with fail
          refine C2.out.mono ?_
          rintro e w3 ⟨rfl, rfl⟩
          go_wp2_with fail
          refine C3.out.mono ?_
          rintro e w4 ⟨rfl, rfl⟩
          go_wp2_with fail
          go_loop [9, 10, 11] (fun t q i => ∃ k : Nat, k ≤ n ∧ i = .int .i64 k ∧ t = .int .i64 (topl 0 (l.take k)) ∧ q = .bool (noCh (l.take k))) (fun _ _ i => n - (intOf i).toNat)
          case atStart => exact ⟨0, Nat.zero_le _, rfl, by rw [List.take_zero]; rfl, by rw [List.take_zero]; rfl⟩
          case round =>
            obtain ⟨k, hk, rfl, rfl, rfl⟩ := hrel
            by_cases hlt : k < n
            · have hlt' : (k : Int) < (n : Int) := by omega
              obtain ⟨e, he⟩ : ∃ e, l[k]? = some e := ⟨l[k]'(by rw [hn.out]; exact hlt), List.getElem?_eq_getElem _⟩
              obtain ⟨s, ca, cl, cc, c0, c1, hs, c2, hR⟩ := hc.out k e he
              replace c0 := cell_kept hb1 (cell_lt c0) c0
              replace c1 := cell_kept hb1 (cell_lt c1) c1
              have hel : e.2.1 ≤ 1048576 := Nat.le_trans (by have := szl_mem (sz d) l e (List.mem_of_getElem? he); omega) HS.out
              rw [← hs] at hel
              have HTT : Hid (topl 0 (l.take (k + 1)) = max (topl 0 (l.take k)) ((s.size : Int) + 1)) := by
                show _ = _
                rw [topl_take he, hs]
              have HNN : Hid (noCh (l.take (k + 1)) = (noCh (l.take k) && !(e.1 == 4))) := noCh_take he
              clear hs he c2 hR
              generalize topl 0 (l.take k) = tp at *
              generalize noCh (l.take k) = nc at *
              have h1 : (tp < (s.size : Int) + 1 ∧ max tp ((s.size : Int) + 1) = (s.size : Int) + 1) ∨ ((s.size : Int) + 1 ≤ tp ∧ max tp ((s.size : Int) + 1) = tp) := by omega
              have h2 : (e.1 == 4) = true ∨ (e.1 == 4) = false := by cases (e.1 == 4) <;> simp
              rcases h1 with ⟨h1, h1'⟩ | ⟨h1, h1'⟩ <;> rcases h2 with h2 | h2
              all_goals
                rw [h1'] at HTT
                rw [h2] at HNN
                clear h1'
                go_wp2_with fail
                go_round
                case rel => exact ⟨k + 1, by omega, by go_num, by rw [HTT.out], by rw [HNN.out]; simp⟩
                case measure => simp [intOf]; omega
            · have hkn : k = n := by omega
              rw [List.take_of_length_le (show l.length ≤ k by rw [hn.out]; omega)]
              have ht := HT.out
              have ht0 := topl_ge l 0
              have HN2 := HN
              generalize topl 0 l = tp at *
              generalize noCh l = nc at *
              clear HN
              cases nc
              · clear HN2
                go_wp2_with fail
                go_ret
                exact ⟨rfl, hb1⟩
              · have hwt := HN2.out rfl
                clear HN2 HT
                subst hwt
                go_wp2_with fail
                go_ret
                exact ⟨rfl, hb1⟩

set_option maxHeartbeats 400000 in
theorem zzwidth_none (a : Option Addr) (cap : Nat) (w : World) : Calls Try.prog 6 #[.slice a 0 cap] w fun e w' => e = .returned (.int .i64 0) ∧ w' = w := by
  go_enter Try.func6, Try.ntmps6
  go_wp2_with fail
  refine (width_none a cap w).mono ?_
  rintro e w' ⟨rfl, rfl⟩
  go_wp2_with fail
  go_ret
  exact ⟨rfl, rfl⟩

set_option maxHeartbeats 2000000 in
set_option maxRecDepth 100000 in
theorem law_none (a : Option Addr) (cap : Nat) (cut : Int) (w : World) :
    Calls Try.prog 3 #[.slice a 0 cap, .int .i64 cut] w fun e w' => e = .returned (.bool true) ∧ Below w.heap.size w w' := by
  by_cases hc1 : cut < 0
  · go_enter Try.func3, Try.ntmps3
    go_wp2_with fail
    refine (bytes_none a cap 0 _ (by omega) (by omega)).mono ?_
    rintro e w' ⟨rfl, hw⟩
    subst hw
    go_wp2_with fail
    go_ret
    exact ⟨rfl, Below.refl _ _⟩
  · by_cases hc2 : 0 < cut
    · go_enter Try.func3, Try.ntmps3
      go_wp2_with fail
      refine (bytes_none a cap 0 _ (by omega) (by omega)).mono ?_
      rintro e w' ⟨rfl, hw⟩
      subst hw
      go_wp2_with fail
      go_ret
      exact ⟨rfl, Below.refl _ _⟩
    · obtain rfl : cut = 0 := by omega
      clear hc1 hc2
      cases a with
      | none =>
        go_enter Try.func3, Try.ntmps3
        go_wp2_with fail
        refine (bytes_none none cap 0 _ (by omega) (by omega)).mono ?_
        rintro e w' ⟨rfl, hw⟩
        subst hw
        go_wp2_with fail
        refine (build_nil cap _).mono ?_
        rintro e w1 ⟨rfl, hw⟩
        subst hw
        go_wp2_with fail
        refine (zzwidth_none _ _ _).mono ?_
        rintro e w2 ⟨rfl, hw⟩
        subst hw
        go_wp2_with fail
        refine (zzwidth_none _ _ _).mono ?_
        rintro e w2 ⟨rfl, hw⟩
        subst hw
        go_wp2_with fail
        refine (zzwidth_none _ _ _).mono ?_
        rintro e w2 ⟨rfl, hw⟩
        subst hw
        go_wp2_with fail
        go_loop [9, 10, 11] (fun t q i => t = .int .i64 0 ∧ q = .bool true ∧ i = .int .i64 0) (fun _ _ _ => 0)
        case atStart => exact ⟨rfl, rfl, rfl⟩
        case round =>
          obtain ⟨rfl, rfl, rfl⟩ := hrel
          go_wp2_with fail
          go_ret
          exact ⟨rfl, Below.refl _ _⟩
      | some x =>
        go_enter Try.func3, Try.ntmps3
        go_wp2_with fail
        refine (bytes_none (some x) cap 0 _ (by omega) (by omega)).mono ?_
        rintro e w' ⟨rfl, hw⟩
        subst hw
        go_wp2_with fail
        refine (build_empty x cap _).mono ?_
        rintro e w1 ⟨rfl, hb1⟩
        go_wp2_with fail
        refine (zzwidth_none _ _ _).mono ?_
        rintro e w2 ⟨rfl, hw⟩
        subst hw
        go_wp2_with fail
        refine (zzwidth_none _ _ _).mono ?_
        rintro e w2 ⟨rfl, hw⟩
        subst hw
        go_wp2_with fail
        refine (zzwidth_none _ _ _).mono ?_
        rintro e w2 ⟨rfl, hw⟩
        subst hw
        go_wp2_with fail
        go_loop [9, 10, 11] (fun t q i => t = .int .i64 0 ∧ q = .bool true ∧ i = .int .i64 0) (fun _ _ _ => 0)
        case atStart => exact ⟨rfl, rfl, rfl⟩
        case round =>
          obtain ⟨rfl, rfl, rfl⟩ := hrel
          go_wp2_with fail
          go_ret
          exact ⟨rfl, hb1⟩

/-- The law at every list that lies in memory. -/
theorem law_any (d : Nat) (l : T d) (v : Value) (cut : Int) (w : World) (h : Lies w d l v) :
    Calls Try.prog 3 #[v, .int .i64 cut] w fun e w' => e = .returned (.bool true) ∧ Below w.heap.size w w' := by
  cases d with
  | zero => exact h.elim
  | succ d =>
    obtain ⟨a, cap, rfl, hm, h⟩ := h
    rcases h with h | ⟨b, off, rfl, hc⟩
    · subst h
      exact law_none a cap cut w
    · exact law_row d l b off cap _ cut w rfl hm hc

end Go.Proofs.Qxb6616355a
