/-
  The proof of 'Rows.FnForgetRemovesOnlyTheHoldItsNameIsStoredUnderSaid': the frame is the guide's own way for a slice that is only read ('Below'), turned to a slice of strings; the walk is filled.
-/
import Derived.Test.Qxb6616530aRows
import Derived.Test.Qxb6616530aRemoves
import Derived.WalkKit
import Derived.ProofKit
import Derived.OpenShut
import Derived.ShutString
import Derived.ChangeOld
import Derived.Below
import Derived.SliceStrings
namespace Go.Proofs.Qxb6616530a.fnForgetRemovesOnlyTheHoldItsNameIsStoredUnder
open Go.ChangeShapes Go.WideShapes Go.ChangeAt Go.RowKit
set_option linter.unusedVariables false

theorem own : ownKnob Try.prog.godebug = none := by kernel_rfl
theorem laidOut : laidOutB Try.prog = true := by kernel_rfl

/-- What the walk is told of the slice: it is nil, or it leads to a row of strings. -/
def IsNames (w : World) (a : Option Addr) (len cap : Nat) (S : Nat → ByteArray) : Prop :=
  (a = none ∧ len = 0 ∧ cap = 0) ∨
  ∃ x : Addr, a = some x ∧ len ≤ maxLen ∧ ∀ i, i < len → w.cell? (x.add i) = some (.string (S i)) ∧ (S i).size ≤ maxLen

theorem walk (a0 : Option Addr) (len0 cap0 : Nat) (S : Nat → ByteArray) (k : Int) (w : World) (w0 : IsNames w a0 len0 cap0 S) :
    Calls Try.prog 5 #[.slice a0 len0 cap0, .int .i64 k] w fun e w' => e = .returned (.bool true) ∧ Below w.heap.size w w' := by
  rcases w0 with ⟨rfl, rfl, rfl⟩ | ⟨x, rfl, hm, hc⟩
  · exact law5_none none 0 k w
  · by_cases hz : len0 = 0
    · subst hz
      exact law5_none _ cap0 k w
    · have hm' : len0 ≤ 9223372036854775807 := hm
      obtain ⟨b, off, spot⟩ := x
      have hc0 := (hc 0 (by omega)).1
      have hspot : spot = none := by simpa [Addr.add] using World.cell?_spot hc0
      subst hspot
      rw [add_plain] at hc0
      have hb : b < w.heap.size := cell_lt hc0
      exact law5_row b off len0 cap0 k S w hm' hb (fun i hi => by
        obtain ⟨c0, c1⟩ := hc i hi
        rw [add_plain] at c0
        exact ⟨c0, c1⟩)

set_option maxRecDepth 100000 in
theorem lifted (os : Os) (started : os.Started) (H : Type) (enc : TypeId × Value → H) :
    ReturnsInHanded {} Try.checked os 5 .any (Rows.fnForgetRemovesOnlyTheHoldItsNameIsStoredUnderSpec.pre6 enc Try.prog Try.f5 Rows.fnForgetRemovesOnlyTheHoldItsNameIsStoredUnderRow.domain false) (Rows.fnForgetRemovesOnlyTheHoldItsNameIsStoredUnderSpec.post enc Try.prog Try.f5 false true false false) := by
  refine returnsInHanded_of_change (C := Try.checked) own started (by kernel_rfl) Try.func5
    (ChangeSpec.witness6 (enc := enc) (C := Try.checked) false ⟨#[], #[.slice none 0 0, .int .i64 0], []⟩ 8 (by kernel_rfl) (by kernel_rfl) (by kernel_rfl) (by kernel_rfl)) ?_
  intro W base args ds gs before hval0 hW hcnd _
  have hval : ∀ (j : Nat) t v, Try.f5.params[j]? = some t → args[j]? = some v → Value.okWide Try.prog W .any base t v := hval0
  have hW' := hW
  obtain ⟨p, q, hA0, hV, rfl, hfz, hnd⟩ := hW
  have hA : DataW.TrodAll enc Try.prog W 0 (fun _ => true) true Try.f5.params.toList args.toList ds p := hA0
  rw [Try.params5] at hA hval
  obtain ⟨v0, vs0, d0, ds0, p0, q0, hargs, rfl, rfl, h0, r0⟩ := trodAll_cons hA
  obtain ⟨v1, vs1, d1, ds1, p1, q1, rfl, rfl, rfl, h1, r1⟩ := trodAll_cons r0
  obtain ⟨rfl, rfl, rfl⟩ := trodAll_nil r1
  obtain rfl : args = #[v0, v1] := by cases args; simp_all
  obtain ⟨rfl, rfl⟩ := trodVars_none hV
  obtain ⟨a0, len0, cap0, rfl⟩ := okWide_slice Try.underlying41 (hval 0 41 v0 rfl rfl)
  have k0 := h0
  have lt0 : ∀ x ∈ p0, x.block < W.heap.size := by obtain ⟨m, hm⟩ := k0; exact DataW.trod_lt m _ _ _ hm
  obtain ⟨S, w0⟩ : ∃ S, IsNames W a0 len0 cap0 S := by
    obtain ⟨fuel, hf⟩ := h0
    rcases open_strings Try.underlying41 Try.underlying9 (by kernel_rfl) hf with ⟨hcs, _⟩ | ⟨x, l, c, ss, hcs, _, hl, hm, hz, _, hcell, hws⟩
    · simp [Value.cells] at hcs
      obtain ⟨rfl, rfl, rfl⟩ := hcs
      exact ⟨fun _ => ByteArray.empty, .inl ⟨rfl, rfl, rfl⟩⟩
    · simp [Value.cells] at hcs
      obtain ⟨rfl, rfl, rfl⟩ := hcs
      have hz' : ss.length = cap0 := by simpa using hz
      refine ⟨fun i => ss.getD i ByteArray.empty, .inr ⟨x, rfl, Nat.le_trans hl hm, fun i hi => ⟨hcell i (by omega), ?_⟩⟩⟩
      have hi' : i < ss.length := by omega
      show (ss.getD i ByteArray.empty).size ≤ maxLen
      rw [List.getD_eq_getElem?_getD, List.getElem?_eq_getElem hi']
      exact hws _ (List.getElem_mem hi')
  obtain ⟨a1, rfl, rfl, rfl, w1⟩ := open_int Try.underlying3 (hval 1 3 v1 rfl rfl) h1
  clear hA0 hval0
  refine (walk a0 len0 cap0 S a1 W w0).mono fun e W' ⟨he, bel⟩ => ?_
  subst he
  exact ⟨_, rfl, _, _, _, [], _, [], hW', trodAll_mk1 (shut_bool Try.underlying4 _), (trodAll_cons_mk (Below.trod laidOut (by kernel_rfl) (of_decide_eq_true (by kernel_rfl)) k0 bel lt0) (trodAll_cons_mk (shut_int Try.underlying3 w1) trodAll_mk0)), rfl, bel.frame _, fun h => by cases h⟩

theorem over : Rows.fnForgetRemovesOnlyTheHoldItsNameIsStoredUnderRow.holds Try.pinned (OpenSpec.ofChange Rows.fnForgetRemovesOnlyTheHoldItsNameIsStoredUnderSpec) :=
  OpenClaim.holds_of_wide 5 Try.f5 rfl rfl rfl rfl rfl rfl rfl ⟨rfl, rfl, rfl, rfl, rfl⟩ rfl rfl rfl rfl rfl (by kernel_rfl) Try.func5 (by kernel_rfl)
    (of_decide_eq_true (by kernel_rfl)) (by unfold Func.isWrapper; first | (rw [if_pos (by decide +kernel)]; kernel_rfl) | (rw [if_neg (by decide +kernel)]; exact ⟨rfl, rfl⟩))
    (fun os started H enc _ => lifted os started H enc)

/-- THE STATEMENT -/
theorem proved : Rows.FnForgetRemovesOnlyTheHoldItsNameIsStoredUnderSaid :=
  over
#print axioms proved
end Go.Proofs.Qxb6616530a.fnForgetRemovesOnlyTheHoldItsNameIsStoredUnder
