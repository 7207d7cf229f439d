/-
  THE WALKS of the second law's own helpers: zzBytes.., zzLastMakeBefore, zzSeenBefore: they only read the steps.
-/
import Derived.Test.Qxb6616530aScript
import Derived.Lib.Strings
import Derived.Deep.OwnRows
namespace Go.Proofs.Qxb6616530a
open Go.RowKit
set_option linter.unusedVariables false

/-- The steps' row. -/
def Steps (w : World) (b off n : Nat) (S : Nat → ByteArray) (F T : Nat → Bool) : Prop :=
  ∀ i, i < n → w.cell? ⟨b, off + i * 3, none⟩ = some (.string (S i)) ∧ w.cell? ⟨b, off + i * 3 + 1, none⟩ = some (.bool (F i)) ∧ w.cell? ⟨b, off + i * 3 + 2, none⟩ = some (.bool (T i)) ∧ (S i).size ≤ maxLen

theorem Steps.below {w w' : World} {b off n B : Nat} {S : Nat → ByteArray} {F T : Nat → Bool} (h : Steps w b off n S F T) (hb : Below B w w') (hB : b < B) : Steps w' b off n S F T :=
  fun i hi => ⟨(hb.cell (p := ⟨b, _, none⟩) hB).trans (h i hi).1, (hb.cell (p := ⟨b, _, none⟩) hB).trans (h i hi).2.1, (hb.cell (p := ⟨b, _, none⟩) hB).trans (h i hi).2.2.1, (h i hi).2.2.2⟩

theorem str_ne {a b : ByteArray} (h : a ≠ b) : (a.toList == b.toList) = false := by
  rw [beq_eq_false_iff_ne]
  intro e
  rw [Lib.toList_data, Lib.toList_data] at e
  exact h (key_inj (by unfold key; rw [e]))

def ByPost6 (n : Nat) (S : Nat → ByteArray) (w : World) (e : Ending) (w' : World) : Prop := ∃ q : Bool, e = .returned (.bool q) ∧ w' = w ∧ (q = true → ∀ i, i < n → (S i).size ≤ 1048576)

set_option maxHeartbeats 1000000 in
theorem bytes6_any (b off n cap : Nat) (S : Nat → ByteArray) (F T : Nat → Bool) (w : World) (hn : n ≤ 9223372036854775807) (hN : Hid (Steps w b off n S F T)) :
    Calls Try.prog 10 #[.slice (some ⟨b, off, none⟩) n cap] w fun e w' => ByPost6 n S w e w' := by
  by_cases h1 : 1048576 < n
  · go_enter Try.func10, Try.ntmps10
    go_wp2
    go_ret
    exact ⟨false, rfl, rfl, by simp⟩
  · go_enter Try.func10, Try.ntmps10
    go_wp2
    go_loop [3, 4] (fun t i => ∃ j : Nat, ∃ c : Int, j ≤ n ∧ i = .int .i64 j ∧ t = .int .i64 c ∧ 0 ≤ c ∧ c ≤ 1048576 ∧ ∀ x, x < j → (S x).size ≤ 1048576) (fun _ i => n - (intOf i).toNat)
    case atStart => exact ⟨0, n, Nat.zero_le _, rfl, rfl, by omega, by omega, fun x hx => absurd hx (Nat.not_lt_zero x)⟩
    case round =>
      obtain ⟨j, c, hj, rfl, rfl, hc0, hc1, hsz⟩ := hrel
      have HSZ : Hid (∀ x, x < j → (S x).size ≤ 1048576) := hsz
      clear hsz
      by_cases hlt : j < n
      · have hlt' : (j : Int) < (n : Int) := by omega
        obtain ⟨c0, _, _, hm⟩ := hN.out j hlt
        unfold maxLen at hm
        generalize hs : S j = s at *
        have HE : Hid (S j = s) := hs
        clear hs
        by_cases h2 : 1048576 < s.size
        · go_wp2
          go_ret
          exact ⟨false, rfl, rfl, by simp⟩
        · by_cases h3 : 1048576 < c + (s.size : Int)
          · go_wp2
            go_ret
            exact ⟨false, rfl, rfl, by simp⟩
          · go_wp2
            go_round
            case rel => exact ⟨j + 1, _, by omega, by go_num, rfl, by omega, by omega, fun x hx => by
              rcases Nat.lt_or_eq_of_le (Nat.le_of_lt_succ hx) with hx | rfl
              · exact HSZ.out x hx
              · rw [HE.out]; omega⟩
            case measure => simp [intOf]; omega
      · go_wp2
        go_ret
        exact ⟨true, rfl, rfl, fun _ i hi => HSZ.out i (by omega)⟩

set_option maxHeartbeats 1000000 in
theorem bytes6_none (a : Option Addr) (cap : Nat) (w : World) :
    Calls Try.prog 10 #[.slice a 0 cap] w fun e w' => e = .returned (.bool true) ∧ w' = w := by
  go_enter Try.func10, Try.ntmps10
  go_wp2
  go_loop [3, 4] (fun t i => t = .int .i64 0 ∧ i = .int .i64 0) (fun _ _ => 0)
  case atStart => exact ⟨rfl, rfl⟩
  case round =>
    obtain ⟨rfl, rfl⟩ := hrel
    go_wp2
    go_ret
    exact ⟨rfl, rfl⟩

/-- What zzSeenBefore answers. -/
def SeenPost (S : Nat → ByteArray) (i : Nat) (s : ByteArray) (w : World) (e : Ending) (w' : World) : Prop := ∃ q : Bool, e = .returned (.bool q) ∧ w' = w ∧ (q = true → ∃ j, j < i ∧ S j = s) ∧ (q = false → ∀ j, j < i → S j ≠ s)

set_option maxHeartbeats 1000000 in
theorem seen_any (b off n cap i : Nat) (s : ByteArray) (S : Nat → ByteArray) (F T : Nat → Bool) (w : World) (hn : n ≤ 4096) (hi : i ≤ n) (hN : Hid (Steps w b off n S F T)) :
    Calls Try.prog 16 #[.slice (some ⟨b, off, none⟩) n cap, .int .i64 i, .string s] w fun e w' => SeenPost S i s w e w' := by
  go_enter Try.func16, Try.ntmps16
  go_wp2
  go_loop [7] (fun t => ∃ j : Nat, j ≤ i ∧ t = .int .i64 j ∧ ∀ x, x < j → S x ≠ s) (fun t => i - (intOf t).toNat)
  case atStart => exact ⟨0, Nat.zero_le _, rfl, fun x hx => absurd hx (Nat.not_lt_zero x)⟩
  case round =>
    obtain ⟨j, hj, rfl, hno⟩ := hrel
    have HNO : Hid (∀ x, x < j → S x ≠ s) := hno
    clear hno
    by_cases hlt : j < i
    · have hlt' : (j : Int) < (i : Int) := by omega
      have hlt2 : (j : Int) < (n : Int) := by omega
      obtain ⟨c0, _, _, _⟩ := hN.out j (by omega)
      by_cases he : S j = s
      · have HE : Hid (S j = s) := he
        rw [he] at c0
        clear he
        go_wp2
        go_ret
        exact ⟨true, rfl, rfl, fun _ => ⟨j, hlt, HE.out⟩, by simp⟩
      · have hq := str_ne he
        have HE : Hid (S j ≠ s) := he
        clear he
        generalize S j = sj at c0 hq
        go_wp2
        go_round
        case rel => exact ⟨j + 1, by omega, by go_num, fun x hx => by
          rcases Nat.lt_or_eq_of_le (Nat.le_of_lt_succ hx) with hx | rfl
          · exact HNO.out x hx
          · exact HE.out⟩
        case measure => simp [intOf]; omega
    · go_wp2
      go_ret
      exact ⟨false, rfl, rfl, by simp, fun _ x hx => HNO.out x (by omega)⟩

/-- What zzLastMakeBefore answers: a make of that name, or none. -/
def LmPost (S : Nat → ByteArray) (F : Nat → Bool) (i : Nat) (s : ByteArray) (w : World) (e : Ending) (w' : World) : Prop :=
  w' = w ∧ (e = .returned (.int .i64 (-1)) ∨ ∃ m : Nat, e = .returned (.int .i64 m) ∧ m < i ∧ F m = false ∧ S m = s)

set_option maxHeartbeats 1000000 in
theorem lastmake_any (b off n cap i : Nat) (s : ByteArray) (S : Nat → ByteArray) (F T : Nat → Bool) (w : World) (hn : n ≤ 4096) (hi : i ≤ n) (hN : Hid (Steps w b off n S F T)) :
    Calls Try.prog 14 #[.slice (some ⟨b, off, none⟩) n cap, .int .i64 i, .string s] w fun e w' => LmPost S F i s w e w' := by
  go_enter Try.func14, Try.ntmps14
  go_wp2
  go_loop [7] (fun t => ∃ j : Nat, j ≤ i ∧ t = .int .i64 ((j : Int) - 1)) (fun t => (intOf t + 1).toNat)
  case atStart => exact ⟨i, Nat.le_refl _, rfl⟩
  case round =>
    obtain ⟨j', hj, rfl⟩ := hrel
    cases j' with
    | zero =>
      go_wp2
      go_ret
      exact ⟨rfl, Or.inl rfl⟩
    | succ j =>
      rw [show (((j + 1 : Nat) : Int) - 1) = (j : Int) from by omega]
      have hlt2 : (j : Int) < (n : Int) := by omega
      have hj0 : (0 : Int) ≤ (j : Int) := by omega
      obtain ⟨c0, c1, _, _⟩ := hN.out j (by omega)
      cases hF : F j with
      | true =>
        rw [hF] at c1
        generalize S j = sj at c0
        clear hF
        go_wp2
        go_round
        case rel => exact ⟨j, by omega, rfl⟩
        case measure => simp [intOf]
      | false =>
        rw [hF] at c1
        by_cases he : S j = s
        · have HE : Hid (F j = false ∧ S j = s) := ⟨hF, he⟩
          rw [he] at c0
          clear he hF
          go_wp2
          go_ret
          exact ⟨rfl, Or.inr ⟨j, rfl, by omega, HE.out⟩⟩
        · have hq := str_ne he
          clear he hF
          generalize S j = sj at c0 hq
          go_wp2
          go_round
          case rel => exact ⟨j, by omega, rfl⟩
          case measure => simp [intOf]

end Go.Proofs.Qxb6616530a
