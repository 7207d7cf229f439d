/-
  THE LAW FnForgetLeavesEachNameItsLastLiveHold AT NO STEP; and: steps that can be read as data lie in memory as a row of three cells each.
-/
import Derived.Test.Qxb6616530aLeaves
import Derived.Deep.Slices
namespace Go.Proofs.Qxb6616530a
open Go.RowKit
set_option linter.unusedVariables false

set_option maxHeartbeats 2000000 in
set_option maxRecDepth 100000 in
/-- No step: an empty Locker has no hold. -/
theorem law6_none (a : Option Addr) (cap : Nat) (w : World) :
    Calls Try.prog 4 #[.slice a 0 cap] w fun e w' => e = .returned (.bool true) ∧ Below w.heap.size w w' := by
  have hmk := make35 0 (by omega)
  have hmt := make3 0 (by omega)
  rw [show (((0 : Nat) : Int)) = 0 from rfl] at hmk hmt
  go_enter Try.func4, Try.ntmps4
  go_wp2_with fail
  refine (bytes6_none a cap _).mono ?_
  rintro e w' ⟨rfl, hw⟩
  subst hw
  go_wp2_with fail
  go_loop [3, 4] (fun t i => t = .int .i64 0 ∧ i = .int .i64 0) (fun _ _ => 0)
  case atStart => exact ⟨rfl, rfl⟩
  case round =>
    obtain ⟨rfl, rfl⟩ := hrel
    go_wp2_with fail
    refine (newlocker_any _ _).mono ?_
    rintro e w1 ⟨rfl, hlk1, hod1, hb1, hsz1⟩
    have hb2 : Below w'.heap.size w' ((w1.alloc (.cells (madeCells #[.pointer none] 0) 35)).alloc (.cells (madeCells #[.int .i64 0] 0) 3)) := (hb1.alloc hb1.size _).alloc (by have := hb1.size; simp; omega) _
    have CL : Hid (Calls Try.prog 18 #[.pointer (some ⟨w'.heap.size + 1, 0, none⟩)] ((w1.alloc (.cells (madeCells #[.pointer none] 0) 35)).alloc (.cells (madeCells #[.int .i64 0] 0) 3)) fun e w2 => e = .returned (.int .i64 0) ∧ w2 = ((w1.alloc (.cells (madeCells #[.pointer none] 0) 35)).alloc (.cells (madeCells #[.int .i64 0] 0) 3))) :=
      holdslen_any _ _ 0 (.map []) _ ((hlk1.fr (Fr.alloc _ _ 0 0) (by omega) (by intro e; have := hlk1.ne; omega)).fr (Fr.alloc _ _ 0 0) (by omega) (by omega)) ((hod1.alloc _).alloc _)
    clear hlk1 hod1 hb1 hsz1
    go_wp2_with fail
    go_loop [8] (fun i => i = .int .i64 0) (fun _ => 0)
    case atStart => rfl
    case round =>
      obtain rfl := hrel
      go_wp2_with fail
      go_loop [13, 14] (fun t i => t = .int .i64 0 ∧ i = .int .i64 0) (fun _ _ => 0)
      case atStart => exact ⟨rfl, rfl⟩
      case round =>
        obtain ⟨rfl, rfl⟩ := hrel
        go_wp2_with fail
        refine CL.out.mono ?_
        rintro e w2 ⟨rfl, hw2⟩
        subst hw2
        go_wp2_with fail
        go_ret
        exact ⟨rfl, hb2⟩

theorem cells29 : Try.prog.cellsOf 29 = 3 := by kernel_rfl
theorem cells9 : Try.prog.cellsOf 9 = 1 := by kernel_rfl
theorem cells4 : Try.prog.cellsOf 4 = 1 := by kernel_rfl

theorem add_at (b off i j : Nat) : ((⟨b, off, none⟩ : Addr).add i).add j = ⟨b, off + i + j, none⟩ := by
  rw [Deep.add_add, WideShapes.add_plain, Nat.add_assoc]

theorem three {α : Type} (l : List α) (h : l.length = 3) : ∃ a b c, l = [a, b, c] := by
  match l, h with
  | [a, b, c], _ => exact ⟨a, b, c, rfl⟩

theorem some_at {α : Type} (l : List α) (i : Nat) (h : i < l.length) : ∃ y, l[i]? = some y := ⟨l[i], List.getElem?_eq_getElem h⟩

/-- The slice is empty, or it leads to a row of steps. -/
def IsSteps (w : World) (a : Option Addr) (len cap : Nat) : Prop :=
  len = 0 ∨ ∃ (b off : Nat) (S : Nat → ByteArray) (F T : Nat → Bool), a = some ⟨b, off, none⟩ ∧ len ≤ 9223372036854775807 ∧ b < w.heap.size ∧ Steps w b off len S F T

set_option maxRecDepth 100000 in
theorem steps_read {H : Type} {enc : TypeId × Value → H} {w : World} {base : Nat} {spare : Nat → Bool} {held : Bool} (fuel : Nat) (a0 : Option Addr) (len0 cap0 : Nat) (x : DataW H × List MemPlace)
    (h : DataW.trod enc Try.prog w base spare held fuel 26 [.slice a0 len0 cap0] = some x) : IsSteps w a0 len0 cap0 := by
  rcases DataW.trod_slice Try.underlying26 h with ⟨hcs, _⟩ | ⟨a, len, cap, elems, rest, n, _, hcs, _, hb, hl, hm, hlen, hel, _, _⟩
  · simp at hcs
    exact Or.inl hcs.2.1
  · simp at hcs
    obtain ⟨rfl, rfl, rfl⟩ := hcs
    have hm' : cap0 ≤ 9223372036854775807 := hm
    clear hm
    by_cases h0 : len0 = 0
    · exact Or.inl h0
    · obtain ⟨b, off, spot⟩ := a
      have hspot : spot = none := by
        obtain ⟨y, hy⟩ : ∃ y, elems[0]? = some y := some_at elems 0 (by omega)
        have h1 := hel 0 (by omega)
        rw [hy, cells29] at h1
        obtain ⟨cs, hc, _⟩ := Option.bind_eq_some_iff.1 h1
        obtain ⟨_, hcl, hcell⟩ := World.cells?_some hc
        have h2 := hcell 0 (Nat.zero_lt_succ 2)
        obtain ⟨z, hz⟩ : ∃ z, cs[0]? = some z := some_at cs 0 (by omega)
        rw [hz] at h2
        simpa [Addr.add] using World.cell?_spot h2
      subst hspot
      have each : ∀ i, i < len0 → ∃ e : ByteArray × Bool × Bool, w.cell? ⟨b, off + i * 3, none⟩ = some (.string e.1) ∧ w.cell? ⟨b, off + i * 3 + 1, none⟩ = some (.bool e.2.1) ∧ w.cell? ⟨b, off + i * 3 + 2, none⟩ = some (.bool e.2.2) ∧ e.1.size ≤ maxLen := by
        intro i hi
        obtain ⟨y, hy⟩ : ∃ y, elems[i]? = some y := some_at elems i (by omega)
        have h1 := hel i hi
        rw [hy, cells29] at h1
        obtain ⟨cs, hc, ht⟩ := Option.bind_eq_some_iff.1 h1
        obtain ⟨_, hcl, hcell⟩ := World.cells?_some hc
        obtain ⟨xs, k, rfl, _, _, hxl, hfld⟩ := DataW.trod_struct Try.underlying29 ht
        have hxl' : xs.length = 3 := hxl
        obtain ⟨v0, v1, v2, rfl⟩ := three cs hcl
        obtain ⟨y0, y1, y2, rfl⟩ := three xs hxl'
        have g0 := hfld 0 _ rfl
        have g1 := hfld 1 _ rfl
        have g2 := hfld 2 _ rfl
        simp [cells9, cells4] at g0 g1 g2
        obtain ⟨z0, e0, _, hz0⟩ := DataW.trod_string Try.underlying9 g0
        obtain ⟨z1, e1, _⟩ := DataW.trod_bool Try.underlying4 g1
        obtain ⟨z2, e2, _⟩ := DataW.trod_bool Try.underlying4 g2
        have q0 := hcell 0 (by omega)
        have q1 := hcell 1 (by omega)
        have q2 := hcell 2 (by omega)
        rw [add_at] at q0 q1 q2
        simp at e0 e1 e2 q0 q1 q2
        subst e0 e1 e2
        exact ⟨(z0, z1, z2), q0, q1, q2, hz0⟩
      have inh : Inhabited (ByteArray × Bool × Bool) := ⟨(ByteArray.empty, false, false)⟩
      obtain ⟨f, hf⟩ := Deep.choose_lt each
      exact Or.inr ⟨b, off, fun i => (f i).1, fun i => (f i).2.1, fun i => (f i).2.2, rfl, by omega, cell_lt (hf 0 (by omega)).1, hf⟩

end Go.Proofs.Qxb6616530a
