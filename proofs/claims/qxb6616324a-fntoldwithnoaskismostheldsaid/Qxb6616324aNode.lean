/-
  THE WALKS of Node.stalled and Node.heardStalled, over the cells of one Node.
-/
import Derived.Test.Qxb6616324aRows
import Derived.WalkKit
import Derived.WalkSpells
import Derived.WalkLawsBesides
import Derived.Deep.QuietTactic
import Derived.BigQuiet
import Derived.RegionTactic
import Derived.RowKit3
namespace Go.Proofs.Qxb6616324a
open Go.RowKit

theorem grown_trans {a b c : World} (h : Grown a b) (k : Grown b c) : Grown a c :=
  ⟨World.keptBut_trans h.1 k.1, fun x => (k.2.1 x).trans (h.2.1 x), Nat.le_trans h.2.2 k.2.2⟩

theorem grown_drewN {a b : World} (h : Grown a b) (n : Nat) : Grown a (b.drewN n) := by
  induction n generalizing b with
  | zero => exact h
  | succ n ih => exact ih (Grown.drew h)

/-- A Node at block b: the fields that count. -/
structure NodeAt (w : World) (b : Nat) (hr hn ar an silence stall : Int) : Prop where
  c8 : w.cell? ⟨b, 8, none⟩ = some (.int .i64 stall)
  c17 : w.cell? ⟨b, 17, none⟩ = some (.int .u64 hr)
  c18 : w.cell? ⟨b, 18, none⟩ = some (.int .u64 hn)
  c22 : w.cell? ⟨b, 22, none⟩ = some (.int .u64 ar)
  c23 : w.cell? ⟨b, 23, none⟩ = some (.int .u64 an)
  c24 : w.cell? ⟨b, 24, none⟩ = some (.int .i64 silence)
  f22 : w.frozen? ⟨b, 22, none⟩ = false
  f23 : w.frozen? ⟨b, 23, none⟩ = false
  f24 : w.frozen? ⟨b, 24, none⟩ = false
  lt : b < w.heap.size

set_option maxHeartbeats 400000 in
theorem new_any (hr hn ar an silence stall : Int) (w : World) :
    Calls Try.prog 9 #[.agg #[.int .u64 hr, .int .u64 hn], .agg #[.int .u64 ar, .int .u64 an], .int .i64 silence, .int .i64 stall] w fun e w' =>
      ∃ b, w.heap.size ≤ b ∧ e = .returned (.pointer (some ⟨b, 0, none⟩)) ∧ NodeAt w' b hr hn ar an silence stall ∧ Grown w w' := by
  go_enter Try.func9, Try.ntmps9
  go_wp2
  go_ret
  refine ⟨w.heap.size + 1 + 1, by omega, rfl, ?_, (((Grown.refl _).alloc _ _).alloc _ _).alloc _ _⟩
  constructor <;> simp [go_sem]

set_option maxHeartbeats 400000 in
theorem stalled_any (b : Nat) (hr hn ar an silence stall : Int) (w : World) (h : NodeAt w b hr hn ar an silence stall) :
    Calls Try.prog 13 #[.pointer (some ⟨b, 0, none⟩)] w fun e w' => e = .returned (.bool ((ar == hr && an == hn) && decide (stall ≤ silence))) ∧ ∃ n, w' = w.drewN n := by
  obtain ⟨c8, c17, c18, c22, c23, c24, _, _, _, _⟩ := h
  by_cases h1 : ar = hr
  · subst h1
    by_cases h2 : an = hn
    · subst h2
      go_enter Try.func13, Try.ntmps13
      go_wp2
      go_quiet (fail)
      go_wp2
      go_ret
      exact ⟨by simp, nq, rfl⟩
    · have h3 : (an == hn) = false := by simp [h2]
      go_enter Try.func13, Try.ntmps13
      go_wp2
      go_quiet (fail)
      go_wp2
      go_ret
      exact ⟨by simp [h3], nq, rfl⟩
  · have h3 : (ar == hr) = false := by simp [h1]
    go_enter Try.func13, Try.ntmps13
    go_wp2
    go_quiet (fail)
    go_wp2
    go_ret
    exact ⟨by simp [h3], nq, rfl⟩

theorem node_past {w : World} {b : Nat} {hr hn ar an silence stall : Int} (h : NodeAt w b hr hn ar an silence stall) (o : Array Value) (t : TypeId) (n : Nat) :
    NodeAt ((w.alloc (.cells o t)).drewN n) b hr hn ar an silence stall := by
  obtain ⟨c8, c17, c18, c22, c23, c24, f22, f23, f24, hlt⟩ := h
  constructor <;> simp [go_sem, *]

theorem node_set {b : Nat} (hr hn ar an silence stall : Int) (w : World) (h : NodeAt w b hr hn ar an silence stall) (o : Array Value) (n : Nat) :
    NodeAt (((((w.alloc (.cells o 34)).drewN n).setCell ⟨b, 22, none⟩ (.int .u64 hr)).setCell ⟨b, 23, none⟩ (.int .u64 hn)).setCell ⟨b, 24, none⟩ (.int .i64 stall)) b hr hn hr hn stall stall := by
  obtain ⟨c8, c17, c18, c22, c23, c24, f22, f23, f24, hlt⟩ := h
  constructor <;> simp [go_sem, *]

set_option maxHeartbeats 400000 in
theorem heard_zero (b : Nat) (hr hn ar an silence stall : Int) (w : World) (h : NodeAt w b hr hn ar an silence stall) :
    Calls Try.prog 14 #[.pointer (some ⟨b, 0, none⟩), .agg #[.int .u64 0, .int .u64 0]] w fun e w' => e = .returned (.tuple #[]) ∧ ∃ n o, w' = (w.alloc (.cells o 34)).drewN n := by
  obtain ⟨c8, c17, c18, c22, c23, c24, _, _, _, hlt⟩ := h
  go_enter Try.func14, Try.ntmps14
  go_wp2
  go_quiet (fail)
  go_wp2
  go_end0
  exact ⟨rfl, _, _, rfl⟩

set_option maxHeartbeats 1600000 in
theorem heard_other (b : Nat) (hr hn ar an silence stall br bn : Int) (w : World) (h : NodeAt w b hr hn ar an silence stall) (h0 : br ≠ 0 ∨ bn ≠ 0) (h1 : br ≠ hr ∨ bn ≠ hn) :
    Calls Try.prog 14 #[.pointer (some ⟨b, 0, none⟩), .agg #[.int .u64 br, .int .u64 bn]] w fun e w' => e = .returned (.tuple #[]) ∧ ∃ n o, w' = (w.alloc (.cells o 34)).drewN n := by
  obtain ⟨c8, c17, c18, c22, c23, c24, _, _, _, hlt⟩ := h
  have k0 : (br == 0) = false ∨ ((br == 0) = true ∧ (bn == 0) = false) := by
    by_cases e : br = 0
    · right; exact ⟨by simp [e], by simpa [e] using h0⟩
    · left; simp [e]
  have k1 : (br == hr) = false ∨ ((br == hr) = true ∧ (bn == hn) = false) := by
    by_cases e : br = hr
    · right; exact ⟨by simp [e], by simpa [e] using h1⟩
    · left; simp [e]
  clear h0 h1
  rcases k0 with k0 | ⟨k0, k0'⟩ <;> rcases k1 with k1 | ⟨k1, k1'⟩
  all_goals
    go_enter Try.func14, Try.ntmps14
    go_wp2
    go_quiet (fail)
    go_wp2
    go_end0
    exact ⟨rfl, _, _, rfl⟩

set_option maxHeartbeats 1600000 in
theorem heard_yes (b : Nat) (hr hn ar an silence stall : Int) (w : World) (h : NodeAt w b hr hn ar an silence stall) (h0 : hr ≠ 0 ∨ hn ≠ 0) :
    Calls Try.prog 14 #[.pointer (some ⟨b, 0, none⟩), .agg #[.int .u64 hr, .int .u64 hn]] w fun e w' =>
      e = .returned (.tuple #[]) ∧ NodeAt w' b hr hn hr hn stall stall ∧ ∀ W, Grown W w → W.heap.size ≤ b → Grown W w' := by
  obtain ⟨c8, c17, c18, c22, c23, c24, f22, f23, f24, hlt⟩ := h
  have k0 : (hr == 0) = false ∨ ((hr == 0) = true ∧ (hn == 0) = false) := by
    by_cases e : hr = 0
    · right; exact ⟨by simp [e], by simpa [e] using h0⟩
    · left; simp [e]
  clear h0
  rcases k0 with k0 | ⟨k0, k0'⟩
  all_goals
    go_enter Try.func14, Try.ntmps14
    go_wp2
    go_quiet (fail)
    go_wp2
    go_region
    go_end0
    exact ⟨rfl, node_set hr hn ar an silence stall w ⟨c8, c17, c18, c22, c23, c24, f22, f23, f24, hlt⟩ _ _, fun W g hb => (((grown_drewN (g.alloc _ _) _).setCell hb _).setCell hb _).setCell hb _⟩

set_option maxHeartbeats 400000 in
theorem zzstalled_any (b : Nat) (hr hn ar an silence stall : Int) (w : World) (h : NodeAt w b hr hn ar an silence stall) :
    Calls Try.prog 10 #[.pointer (some ⟨b, 0, none⟩)] w fun e w' => e = .returned (.bool ((ar == hr && an == hn) && decide (stall ≤ silence))) ∧ ∃ n, w' = w.drewN n := by
  go_enter Try.func10, Try.ntmps10
  go_wp2_with fail
  refine (stalled_any b hr hn ar an silence stall _ h).mono ?_
  rintro e w' ⟨rfl, n, rfl⟩
  go_wp2_with fail
  go_ret
  exact ⟨rfl, n, rfl⟩

/-- What a hand-over leaves: the same fields, and nothing older has turned. -/
def Heard (w w' : World) (b : Nat) (hr hn ar an silence stall : Int) : Prop :=
  NodeAt w' b hr hn ar an silence stall ∧ ∀ W, Grown W w → W.heap.size ≤ b → Grown W w'

set_option maxHeartbeats 400000 in
theorem zzheard_no (b : Nat) (hr hn ar an silence stall br bn : Int) (w : World) (h : NodeAt w b hr hn ar an silence stall) (h0 : (br = 0 ∧ bn = 0) ∨ (br ≠ hr ∨ bn ≠ hn)) :
    Calls Try.prog 11 #[.pointer (some ⟨b, 0, none⟩), .agg #[.int .u64 br, .int .u64 bn]] w fun e w' => e = .returned (.tuple #[]) ∧ Heard w w' b hr hn ar an silence stall := by
  by_cases z : br = 0 ∧ bn = 0
  · obtain ⟨rfl, rfl⟩ := z
    clear h0
    go_enter Try.func11, Try.ntmps11
    go_wp2_with fail
    refine (heard_zero b hr hn ar an silence stall _ (node_past h _ _ 0)).mono ?_
    rintro e w' ⟨rfl, n, o, rfl⟩
    go_wp2_with fail
    go_end0
    exact ⟨rfl, node_past (node_past h _ _ 0) _ _ _, fun W g hb => grown_drewN ((g.alloc _ _).alloc _ _) _⟩
  · have z1 : Hid (br ≠ 0 ∨ bn ≠ 0) := by
      show br ≠ 0 ∨ bn ≠ 0
      by_cases e : br = 0
      · right; intro e'; exact z ⟨e, e'⟩
      · left; exact e
    have z2 : Hid (br ≠ hr ∨ bn ≠ hn) := by
      rcases h0 with h0 | h0
      · exact absurd h0 z
      · exact h0
    clear z h0
    go_enter Try.func11, Try.ntmps11
    go_wp2_with fail
    refine (heard_other b hr hn ar an silence stall br bn _ (node_past h _ _ 0) z1.out z2.out).mono ?_
    rintro e w' ⟨rfl, n, o, rfl⟩
    go_wp2_with fail
    go_end0
    exact ⟨rfl, node_past (node_past h _ _ 0) _ _ _, fun W g hb => grown_drewN ((g.alloc _ _).alloc _ _) _⟩

set_option maxHeartbeats 400000 in
theorem zzheard_yes (b : Nat) (hr hn ar an silence stall : Int) (w : World) (h : NodeAt w b hr hn ar an silence stall) (h0 : hr ≠ 0 ∨ hn ≠ 0) :
    Calls Try.prog 11 #[.pointer (some ⟨b, 0, none⟩), .agg #[.int .u64 hr, .int .u64 hn]] w fun e w' => e = .returned (.tuple #[]) ∧ Heard w w' b hr hn hr hn stall stall := by
  have z1 : Hid (hr ≠ 0 ∨ hn ≠ 0) := h0
  clear h0
  go_enter Try.func11, Try.ntmps11
  go_wp2_with fail
  refine (heard_yes b hr hn ar an silence stall _ (node_past h _ _ 0) z1.out).mono ?_
  rintro e w' ⟨rfl, hn', hg⟩
  go_wp2_with fail
  go_end0
  exact ⟨rfl, hn', fun W g hb => hg W (g.alloc _ _) hb⟩

end Go.Proofs.Qxb6616324a
