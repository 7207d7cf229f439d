/-
  THE WALKS of the first law's own helpers: zzBytes.. and zzForgetStateIs.
-/
import Derived.Test.Qxb6616530aForget
import Derived.Deep.OwnRows
namespace Go.Proofs.Qxb6616530a
open Go.RowKit
set_option linter.unusedVariables false

/-- The names' row. -/
def Names (w : World) (b off n : Nat) (S : Nat → ByteArray) : Prop := ∀ i, i < n → w.cell? ⟨b, off + i, none⟩ = some (.string (S i)) ∧ (S i).size ≤ maxLen

theorem Names.below {w w' : World} {b off n B : Nat} {S : Nat → ByteArray} (h : Names w b off n S) (hb : Below B w w') (hB : b < B) : Names w' b off n S :=
  fun i hi => ⟨(hb.cell (p := ⟨b, off + i, none⟩) hB).trans (h i hi).1, (h i hi).2⟩

def ByPost (n : Nat) (S : Nat → ByteArray) (w : World) (e : Ending) (w' : World) : Prop := ∃ q : Bool, e = .returned (.bool q) ∧ w' = w ∧ (q = true → ∀ i, i < n → (S i).size ≤ 1048576)

set_option maxHeartbeats 1000000 in
theorem bytes_any (b off n cap : Nat) (k : Int) (S : Nat → ByteArray) (w : World) (hn : n ≤ 9223372036854775807) (hN : Hid (Names w b off n S)) :
    Calls Try.prog 19 #[.slice (some ⟨b, off, none⟩) n cap, .int .i64 k] w fun e w' => ByPost n S w e w' := by
  by_cases h1 : 1048576 < n
  · go_enter Try.func19, Try.ntmps19
    go_wp2
    go_ret
    exact ⟨false, rfl, rfl, by simp⟩
  · go_enter Try.func19, Try.ntmps19
    go_wp2
    go_loop [5, 6] (fun t i => ∃ j : Nat, ∃ c : Int, j ≤ n ∧ i = .int .i64 j ∧ t = .int .i64 c ∧ 0 ≤ c ∧ c ≤ 1048576 ∧ ∀ x, x < j → (S x).size ≤ 1048576) (fun _ i => n - (intOf i).toNat)
    case atStart => exact ⟨0, n, Nat.zero_le _, rfl, rfl, by omega, by omega, fun x hx => absurd hx (Nat.not_lt_zero x)⟩
    case round =>
      obtain ⟨j, c, hj, rfl, rfl, hc0, hc1, hsz⟩ := hrel
      have HSZ : Hid (∀ x, x < j → (S x).size ≤ 1048576) := hsz
      clear hsz
      by_cases hlt : j < n
      · have hlt' : (j : Int) < (n : Int) := by omega
        obtain ⟨c0, hm⟩ := hN.out j hlt
        unfold maxLen at hm
        have HS : Hid (S j = S j) := rfl
        generalize hs : S j = s at *
        have HE : Hid (S j = s) := hs
        clear hs HS
        by_cases h2 : 1048576 < s.size
        · go_wp2
          go_ret
          exact ⟨false, rfl, rfl, by simp⟩
        · by_cases h3 : 1048576 < c + (s.size : Int)
          · go_wp2
            go_ret
            exact ⟨false, rfl, rfl, by simp⟩
          · go_wp2
            go_round
            case rel => exact ⟨j + 1, _, by omega, by go_num, rfl, by omega, by omega, fun x hx => by
              rcases Nat.lt_or_eq_of_le (Nat.le_of_lt_succ hx) with hx | rfl
              · exact HSZ.out x hx
              · rw [HE.out]; omega⟩
            case measure => simp [intOf]; omega
      · go_wp2
        go_ret
        exact ⟨true, rfl, rfl, fun _ i hi => HSZ.out i (by omega)⟩

set_option maxHeartbeats 1000000 in
theorem bytes_none (a : Option Addr) (cap : Nat) (k : Int) (w : World) :
    Calls Try.prog 19 #[.slice a 0 cap, .int .i64 k] w fun e w' => e = .returned (.bool true) ∧ w' = w := by
  go_enter Try.func19, Try.ntmps19
  go_wp2
  go_loop [5, 6] (fun t i => t = .int .i64 0 ∧ i = .int .i64 0) (fun _ _ => 0)
  case atStart => exact ⟨rfl, rfl⟩
  case round =>
    obtain ⟨rfl, rfl⟩ := hrel
    go_wp2
    go_ret
    exact ⟨rfl, rfl⟩

/-- The pointers' row. -/
def ptrs (H : Nat → Nat) (k : Nat) (j : Nat) : Value := if j < k then .pointer (some ⟨H j, 0, none⟩) else .pointer none

/-- What the last map answers at a name. -/
theorem look_last {w : World} {bl n : Nat} {E : DataW Unit} (h : w.ownsMap Try.prog 9 (plainElem Try.prog 3) bl n E) (s : ByteArray) (hs : s.size ≤ maxLen) :
    ∃ c : Int, (Instr.lookup 43 (.map (some bl)) (.string s) false).run Try.prog w = .ok (.int .i64 c) w ∧ E.atKey (key s) (.lit (.int .i64 0)) = .lit (.int .i64 c) := by
  obtain ⟨c, hrun, hat, _⟩ := h.lookup_int law9 Try.underlying43 Try.underlying3 (zero3 w) (key_of hs)
  exact ⟨c, hrun, hat⟩

set_option maxHeartbeats 2000000 in
set_option maxRecDepth 100000 in
theorem state_any (L bm bl Hb b off n cap nd ne : Nat) (kk : Nat) (rem : Bool) (S : Nat → ByteArray) (H : Nat → Nat) (D E : DataW Unit) (w : World) (hn : n ≤ 4096)
    (hN : Hid (Names w b off n S)) (hl : Lk w L bm) (hd : w.ownsMap Try.prog 9 ptrElem bm nd D) (he : w.ownsMap Try.prog 9 (plainElem Try.prog 3) bl ne E)
    (hrow : Hid (w.rowIs Hb 35 n (ptrs H n))) (hh : Hid (∀ j, j < n → HoldAt w (H j) (S j)))
    (hlaw : Hid (∀ i, i < n → E.atKey (key (S i)) (.lit (.int .i64 0)) = .lit (.int .i64 i) → under D (S i) = if i = kk then .pointer none else .pointer (some ⟨H i, 0, none⟩)))
    (hlen : (Maps.size D : Int) = (Maps.size E : Int) - (if rem then 1 else 0)) (hse : Maps.size E ≤ 4096) :
    Calls Try.prog 20 #[.pointer (some ⟨L, 0, none⟩), .slice (some ⟨b, off, none⟩) n cap, .slice (some ⟨Hb, 0, none⟩) n n, .map (some bl), .int .i64 kk, .bool rem] w fun e w' => e = .returned (.bool true) ∧ w' = w := by
  have CL : Hid (Calls Try.prog 18 #[.pointer (some ⟨L, 0, none⟩)] w fun e w' => e = .returned (.int .i64 (Maps.size D)) ∧ w' = w) := holdslen_any L bm nd D w hl hd
  have CO : Hid (∀ s : ByteArray, s.size ≤ maxLen → Calls Try.prog 17 #[.pointer (some ⟨L, 0, none⟩), .string s] w fun e w' => e = .returned (under D s) ∧ w' = w) := fun s hs => holdof_any L bm nd s D w hl hd hs
  have hle := fun ty => he.len Try.underlying43 ty
  have HE := he
  have HEH : Hid (w.ownsMap Try.prog 9 (plainElem Try.prog 3) bl ne E) := he
  clear he HE hd hl
  generalize Maps.size D = sd at *
  generalize Maps.size E = se at *
  go_enter Try.func20, Try.ntmps20
  go_wp2_with fail
  go_loop [13] (fun i => ∃ j : Nat, j ≤ n ∧ i = .int .i64 j) (fun i => n - (intOf i).toNat)
  case atStart => exact ⟨0, Nat.zero_le _, rfl⟩
  case round =>
    obtain ⟨j, hj, rfl⟩ := hrel
    by_cases hlt : j < n
    · have hlt' : (j : Int) < (n : Int) := by omega
      obtain ⟨c0, hm⟩ := hN.out j hlt
      obtain ⟨c, hrun, hat⟩ := look_last HEH.out (S j) hm
      have HA : Hid (E.atKey (key (S j)) (.lit (.int .i64 0)) = .lit (.int .i64 c)) := hat
      have hr0 := hrow.out.cell hlt
      have hp : ptrs H n j = .pointer (some ⟨H j, 0, none⟩) := by unfold ptrs; rw [if_pos hlt]
      rw [hp] at hr0
      clear hat hp hle
      by_cases hcj : c = (j : Int)
      · subst hcj
        have hund := hlaw.out j hlt HA.out
        have hptr : PtrIn w (.pointer (some ⟨H j, 0, none⟩)) := (hh.out j hlt).ptr
        have HC := CO.out (S j) hm
        rw [hund] at HC
        by_cases hjk : j = kk
        · have hq : ((j : Int) == (kk : Int)) = true := by simp [hjk]
          rw [if_pos hjk] at HC
          have HCC : Hid (Calls Try.prog 17 #[.pointer (some ⟨L, 0, none⟩), .string (S j)] w fun e w' => e = .returned (.pointer none) ∧ w' = w) := HC
          have hneq := neq_run (w := w) (Or.inl rfl) (Or.inl rfl : PtrIn w (.pointer none))
          clear HC hund hjk hptr hlt HA
          generalize S j = s at *
          go_wp2_with fail
          refine HCC.out.mono ?_
          rintro e w' ⟨rfl, rfl⟩
          go_wp2_with fail
          go_round
          case rel => exact ⟨j + 1, by omega, by go_num⟩
          case measure => simp [intOf]; omega
        · have hq : ((j : Int) == (kk : Int)) = false := by simp; omega
          rw [if_neg hjk] at HC
          have HCC : Hid (Calls Try.prog 17 #[.pointer (some ⟨L, 0, none⟩), .string (S j)] w fun e w' => e = .returned (.pointer (some ⟨H j, 0, none⟩)) ∧ w' = w) := HC
          have hneq := neq_run hptr hptr
          have hqq : eqv (.pointer (some ⟨H j, 0, none⟩)) (.pointer (some ⟨H j, 0, none⟩)) = true := by simp [eqv]
          rw [hqq] at hneq
          clear HC hund hjk hptr HA hqq
          generalize S j = s at *
          generalize H j = hj' at *
          go_wp2_with fail
          refine HCC.out.mono ?_
          rintro e w' ⟨rfl, rfl⟩
          go_wp2_with fail
          go_round
          case rel => exact ⟨j + 1, by omega, by go_num⟩
          case measure => simp [intOf]; omega
      · have hq : (c != (j : Int)) = true := by simp [hcj]
        clear hcj HA
        generalize S j = s at *
        go_wp2_with fail
        go_round
        case rel => exact ⟨j + 1, by omega, by go_num⟩
        case measure => simp [intOf]; omega
    · cases rem
      · have hq : ((sd : Int) == (se : Int)) = true := by simp at hlen ⊢; omega
        clear hlen
        go_wp2_with fail
        refine CL.out.mono ?_
        rintro e w' ⟨rfl, rfl⟩
        go_wp2_with fail
        go_ret
        exact ⟨rfl, rfl⟩
      · have hq : ((sd : Int) == (se : Int) - 1) = true := by simp at hlen ⊢; omega
        clear hlen
        go_wp2_with fail
        refine CL.out.mono ?_
        rintro e w' ⟨rfl, rfl⟩
        go_wp2_with fail
        go_ret
        exact ⟨rfl, rfl⟩

end Go.Proofs.Qxb6616530a
