/-
  The proof of 'Rows.FnToldWithNoAskIsMostHeldSaid': the frame is the guide's own way for a slice that is only read ('Below'), turned to a slice of pairs; the walk is filled.
-/
import Derived.Test.Qxb6616324aRows
import Derived.Test.Qxb6616324aToldLaw
import Derived.WalkKit
import Derived.ProofKit
import Derived.OpenShut
import Derived.ShutString
import Derived.ChangeOld
import Derived.Below
import Derived.Deep.SlicePairs
namespace Go.Proofs.Qxb6616324a.fnToldWithNoAskIsMostHeld
open Go.ChangeShapes Go.WideShapes Go.ChangeAt Go.RowKit
set_option linter.unusedVariables false

theorem own : ownKnob Try.prog.godebug = none := by kernel_rfl
theorem laidOut : laidOutB Try.prog = true := by kernel_rfl

theorem u64_of {a : Int} (h : (Lit.int .u64 a).wf = true) : 0 ≤ a := by
  simp [Lit.wf, IntKind.min, IntKind.max, IntKind.bits, IntKind.signed] at h
  omega

/-- What the walk is told of the slice: it is nil, or it leads to a row of pairs of numbers. -/
def IsPairs (w : World) (a : Option Addr) (len cap : Nat) (I Hd : Nat → Int) : Prop :=
  (a = none ∧ len = 0 ∧ cap = 0) ∨
  ∃ x : Addr, a = some x ∧ len ≤ maxLen ∧ ∀ i, i < len → w.cell? (x.add (i * 2)) = some (.int .u64 (I i)) ∧ w.cell? (x.add (i * 2 + 1)) = some (.int .u64 (Hd i)) ∧ (Lit.int .u64 (I i)).wf = true

theorem walk (a0 : Int) (a1 : Option Addr) (len1 cap1 : Nat) (I Hd : Nat → Int) (w : World) (w0 : (Lit.int .u64 a0).wf = true) (w1 : IsPairs w a1 len1 cap1 I Hd) :
    Calls Try.prog 3 #[.int .u64 a0, .slice a1 len1 cap1] w fun e w' => e = .returned (.bool true) ∧ Below w.heap.size w w' := by
  have h0 := u64_of w0
  rcases w1 with ⟨rfl, rfl, rfl⟩ | ⟨x, rfl, hm, hc⟩
  · exact law_none none 0 a0 w h0
  · unfold maxLen at hm
    by_cases hz : len1 = 0
    · subst hz
      exact law_none _ cap1 a0 w h0
    · by_cases hl : 65536 < len1
      · exact law_long _ len1 cap1 a0 w hl (by omega)
      · obtain ⟨b, off, spot⟩ := x
        have hc0 := (hc 0 (by omega)).1
        have hspot : spot = none := by simpa [Addr.add] using World.cell?_spot hc0
        subst hspot
        have hb : b < w.heap.size := by
          have h1 : (w.cell? ⟨b, off + 0 * 2, none⟩).isSome = true := by
            have : w.cell? ⟨b, off + 0 * 2, none⟩ = some (.int .u64 (I 0)) := by simpa [Addr.add] using hc0
            rw [this]; rfl
          rcases Nat.lt_or_ge b w.heap.size with h | h
          · exact h
          · simp [World.cell?, Array.getElem?_eq_none h] at h1
        exact law_some b off len1 cap1 a0 I Hd w (by omega) ⟨hb, fun i hi => by
          obtain ⟨c0, c1, c2⟩ := hc i hi
          rw [add_plain] at c0 c1
          exact ⟨c0, by rw [Nat.add_assoc]; exact c1, c2⟩⟩ w0 h0

set_option maxRecDepth 100000 in
theorem lifted (os : Os) (started : os.Started) (H : Type) (enc : TypeId × Value → H) :
    ReturnsInHanded {} Try.checked os 3 .any (Rows.fnToldWithNoAskIsMostHeldSpec.pre6 enc Try.prog Try.f3 Rows.fnToldWithNoAskIsMostHeldRow.domain false) (Rows.fnToldWithNoAskIsMostHeldSpec.post enc Try.prog Try.f3 false true false false) := by
  refine returnsInHanded_of_change (C := Try.checked) own started (by kernel_rfl) Try.func3
    (ChangeSpec.witness6 (enc := enc) (C := Try.checked) false ⟨#[], #[.int .u64 0, .slice none 0 0], []⟩ 8 (by kernel_rfl) (by kernel_rfl) (by kernel_rfl) (by kernel_rfl)) ?_
  intro W base args ds gs before hval0 hW hcnd _
  have hval : ∀ (j : Nat) t v, Try.f3.params[j]? = some t → args[j]? = some v → Value.okWide Try.prog W .any base t v := hval0
  have hW' := hW
  obtain ⟨p, q, hA0, hV, rfl, hfz, hnd⟩ := hW
  have hA : DataW.TrodAll enc Try.prog W 0 (fun _ => true) true Try.f3.params.toList args.toList ds p := hA0
  rw [Try.params3] at hA hval
  obtain ⟨v0, vs0, d0, ds0, p0, q0, hargs, rfl, rfl, h0, r0⟩ := trodAll_cons hA
  obtain ⟨v1, vs1, d1, ds1, p1, q1, rfl, rfl, rfl, h1, r1⟩ := trodAll_cons r0
  obtain ⟨rfl, rfl, rfl⟩ := trodAll_nil r1
  obtain rfl : args = #[v0, v1] := by cases args; simp_all
  obtain ⟨rfl, rfl⟩ := trodVars_none hV
  obtain ⟨a0, rfl, rfl, rfl, w0⟩ := open_int Try.underlying22 (hval 0 22 v0 rfl rfl) h0
  obtain ⟨a1, len1, cap1, rfl⟩ := okWide_slice Try.underlying23 (hval 1 23 v1 rfl rfl)
  have k1 := h1
  have lt1 : ∀ x ∈ p1, x.block < W.heap.size := by obtain ⟨m, hm⟩ := k1; exact DataW.trod_lt m _ _ _ hm
  obtain ⟨I, Hd, w1⟩ : ∃ I Hd, IsPairs W a1 len1 cap1 I Hd := by
    obtain ⟨fuel, hf⟩ := h1
    rcases Deep.open_slice_pairs Try.underlying23 Try.underlying32 (by kernel_rfl) rfl rfl (by kernel_rfl) (by kernel_rfl) hf with ⟨hcs, _⟩ | ⟨x, l, c, m, n, V0, V1, D0, D1, P0, P1, hcs, _, hl, hm, hmm, _, hx⟩
    · simp [Value.cells] at hcs
      obtain ⟨rfl, rfl, rfl⟩ := hcs
      exact ⟨fun _ => 0, fun _ => 0, .inl ⟨rfl, rfl, rfl⟩⟩
    · simp [Value.cells] at hcs
      obtain ⟨rfl, rfl, rfl⟩ := hcs
      refine ⟨fun i => intOf (V0 i), fun i => intOf (V1 i), .inr ⟨x, rfl, Nat.le_trans hl hm, fun i hi => ?_⟩⟩
      have hmc : m = cap1 := by simpa using hmm
      obtain ⟨c0, c1, t0, t1⟩ := hx i (by omega)
      obtain ⟨y0, e0, _, g0⟩ := DataW.trod_int Try.underlying22 t0
      obtain ⟨y1, e1, _, g1⟩ := DataW.trod_int Try.underlying22 t1
      simp at e0 e1
      refine ⟨?_, ?_, ?_⟩
      · rw [c0]; show some (V0 i) = some (.int .u64 (intOf (V0 i))); rw [e0]; rfl
      · rw [c1]; show some (V1 i) = some (.int .u64 (intOf (V1 i))); rw [e1]; rfl
      · show (Lit.int .u64 (intOf (V0 i))).wf = true; rw [e0]; exact g0
  clear hA0 hval0
  refine (walk a0 a1 len1 cap1 I Hd W w0 w1).mono fun e W' ⟨he, bel⟩ => ?_
  subst he
  exact ⟨_, rfl, _, _, _, [], _, [], hW', trodAll_mk1 (shut_bool Try.underlying4 _), (trodAll_cons_mk (shut_int Try.underlying22 w0) (trodAll_cons_mk (Below.trod laidOut (by kernel_rfl) (of_decide_eq_true (by kernel_rfl)) k1 bel lt1) trodAll_mk0)), rfl, bel.frame _, fun h => by cases h⟩

theorem over : Rows.fnToldWithNoAskIsMostHeldRow.holds Try.pinned (OpenSpec.ofChange Rows.fnToldWithNoAskIsMostHeldSpec) :=
  OpenClaim.holds_of_wide 3 Try.f3 rfl rfl rfl rfl rfl rfl rfl ⟨rfl, rfl, rfl, rfl, rfl⟩ rfl rfl rfl rfl rfl (by kernel_rfl) Try.func3 (by kernel_rfl)
    (of_decide_eq_true (by kernel_rfl)) (by unfold Func.isWrapper; first | (rw [if_pos (by decide +kernel)]; kernel_rfl) | (rw [if_neg (by decide +kernel)]; exact ⟨rfl, rfl⟩))
    (fun os started H enc _ => lifted os started H enc)

/-- THE STATEMENT -/
theorem proved : Rows.FnToldWithNoAskIsMostHeldSaid :=
  over
#print axioms proved
end Go.Proofs.Qxb6616324a.fnToldWithNoAskIsMostHeld
