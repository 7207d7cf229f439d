/-
  THE WALK OF THE LAW FnHandOverFromLeaderMakesItStalled.
-/
import Derived.Test.Qxb6616324aNode
namespace Go.Proofs.Qxb6616324a
open Go.RowKit

theorem node_drew {w : World} {b : Nat} {hr hn ar an silence stall : Int} (h : NodeAt w b hr hn ar an silence stall) (n : Nat) :
    NodeAt (w.drewN n) b hr hn ar an silence stall := by
  obtain ⟨c8, c17, c18, c22, c23, c24, f22, f23, f24, hlt⟩ := h
  constructor <;> simp [go_sem, *]

/-- The ways of the law's own test: the ballot is zero · it is none and is not the highest (each test by its outcome) · it is the highest. -/
def Way (hr hn br bn : Int) : Prop :=
  ((br != 0) = false ∧ (bn != 0) = false) ∨
  ((br != 0) = true ∧ (br == hr) = false) ∨
  ((br != 0) = true ∧ (br == hr) = true ∧ (bn == hn) = false) ∨
  ((br != 0) = false ∧ (bn != 0) = true ∧ (br == hr) = false) ∨
  ((br != 0) = false ∧ (bn != 0) = true ∧ (br == hr) = true ∧ (bn == hn) = false)

theorem Way.no {hr hn br bn : Int} (h : Way hr hn br bn) : (br = 0 ∧ bn = 0) ∨ (br ≠ hr ∨ bn ≠ hn) := by
  rcases h with ⟨a, b⟩ | ⟨a, b⟩ | ⟨a, b, c⟩ | ⟨a, b, c⟩ | ⟨a, b, c, d⟩
  · left; exact ⟨by simpa using a, by simpa using b⟩
  · right; left; simpa using b
  · right; right; simpa using c
  · right; left; simpa using c
  · right; right; simpa using d

set_option maxHeartbeats 8000000 in
set_option maxRecDepth 100000 in
theorem law_no (hr hn ar an silence stall br bn : Int) (hw : Way hr hn br bn) (w : World) :
    Calls Try.prog 4 #[.int .u64 hr, .int .u64 hn, .int .u64 ar, .int .u64 an, .int .i64 silence, .int .i64 stall, .int .u64 br, .int .u64 bn] w fun e w' => e = .returned (.bool true) ∧ Grown w w' := by
  have H : Hid ((br = 0 ∧ bn = 0) ∨ (br ≠ hr ∨ bn ≠ hn)) := hw.no
  rcases hw with ⟨k1, k2⟩ | ⟨k1, k2⟩ | ⟨k1, k2, k3⟩ | ⟨k1, k2, k3⟩ | ⟨k1, k2, k3, k4⟩
  all_goals
    go_enter Try.func4, Try.ntmps4
    go_wp2_with fail
    refine (new_any hr hn ar an silence stall _).mono ?_
    rintro e w1 ⟨b, hb, rfl, hn1, hg1⟩
    go_wp2_with fail
    refine (zzstalled_any b hr hn ar an silence stall _ hn1).mono ?_
    rintro e w2 ⟨rfl, n2, rfl⟩
    generalize hv : ((ar == hr && an == hn) && decide (stall ≤ silence)) = bf
    have HV : Hid (((ar == hr && an == hn) && decide (stall ≤ silence)) = bf) := hv
    clear hv
    go_wp2_with fail
    refine (zzheard_no b hr hn ar an silence stall br bn _ (node_drew hn1 _) H.out).mono ?_
    rintro e w3 ⟨rfl, hn3, hg3⟩
    go_wp2_with fail
    refine (zzstalled_any b hr hn ar an silence stall _ hn3).mono ?_
    rintro e w4 ⟨rfl, n4, rfl⟩
    rw [HV.out]
    clear HV
    cases bf
    all_goals
      go_wp2_with fail
      go_ret
      exact ⟨rfl, grown_drewN (hg3 w (grown_drewN (grown_trans ((Grown.refl _).alloc _ _) hg1) _) (by simp at hb; omega)) _⟩

set_option maxHeartbeats 8000000 in
set_option maxRecDepth 100000 in
theorem law_yes (hr hn ar an silence stall : Int) (hw : (hr != 0) = true ∨ ((hr != 0) = false ∧ (hn != 0) = true)) (w : World) :
    Calls Try.prog 4 #[.int .u64 hr, .int .u64 hn, .int .u64 ar, .int .u64 an, .int .i64 silence, .int .i64 stall, .int .u64 hr, .int .u64 hn] w fun e w' => e = .returned (.bool true) ∧ Grown w w' := by
  have H : Hid (hr ≠ 0 ∨ hn ≠ 0) := by
    rcases hw with h | ⟨_, h⟩
    · left; simpa using h
    · right; simpa using h
  rcases hw with k1 | ⟨k1, k2⟩
  all_goals
    go_enter Try.func4, Try.ntmps4
    go_wp2_with fail
    refine (new_any hr hn ar an silence stall _).mono ?_
    rintro e w1 ⟨b, hb, rfl, hn1, hg1⟩
    go_wp2_with fail
    refine (zzstalled_any b hr hn ar an silence stall _ hn1).mono ?_
    rintro e w2 ⟨rfl, n2, rfl⟩
    generalize ((ar == hr && an == hn) && decide (stall ≤ silence)) = bf
    go_wp2_with fail
    refine (zzheard_yes b hr hn ar an silence stall _ (node_drew hn1 _) H.out).mono ?_
    rintro e w3 ⟨rfl, hn3, hg3⟩
    go_wp2_with fail
    refine (zzstalled_any b hr hn hr hn stall stall _ hn3).mono ?_
    rintro e w4 ⟨rfl, n4, rfl⟩
    rw [show ((hr == hr && hn == hn) && decide (stall ≤ stall)) = true from by simp]
    cases bf
    all_goals
      go_wp2_with fail
      go_ret
      exact ⟨rfl, grown_drewN (hg3 w (grown_drewN (grown_trans ((Grown.refl _).alloc _ _) hg1) _) (by simp at hb; omega)) _⟩

theorem law_any (hr hn ar an silence stall br bn : Int) (w : World) :
    Calls Try.prog 4 #[.int .u64 hr, .int .u64 hn, .int .u64 ar, .int .u64 an, .int .i64 silence, .int .i64 stall, .int .u64 br, .int .u64 bn] w fun e w' => e = .returned (.bool true) ∧ Grown w w' := by
  by_cases z : br = 0
  · by_cases z' : bn = 0
    · exact law_no hr hn ar an silence stall br bn (Or.inl ⟨by simp [z], by simp [z']⟩) w
    · by_cases y : br = hr
      · by_cases y' : bn = hn
        · subst y y'
          exact law_yes br bn ar an silence stall (Or.inr ⟨by simp [z], by simp [z']⟩) w
        · exact law_no hr hn ar an silence stall br bn (Or.inr (Or.inr (Or.inr (Or.inr ⟨by simp [z], by simp [z'], by simp [y], by simp [y']⟩)))) w
      · exact law_no hr hn ar an silence stall br bn (Or.inr (Or.inr (Or.inr (Or.inl ⟨by simp [z], by simp [z'], by simp [y]⟩)))) w
  · by_cases y : br = hr
    · by_cases y' : bn = hn
      · subst y y'
        exact law_yes br bn ar an silence stall (Or.inl (by simp [z])) w
      · exact law_no hr hn ar an silence stall br bn (Or.inr (Or.inr (Or.inl ⟨by simp [z], by simp [y], by simp [y']⟩))) w
    · exact law_no hr hn ar an silence stall br bn (Or.inr (Or.inl ⟨by simp [z], by simp [y]⟩)) w

end Go.Proofs.Qxb6616324a
