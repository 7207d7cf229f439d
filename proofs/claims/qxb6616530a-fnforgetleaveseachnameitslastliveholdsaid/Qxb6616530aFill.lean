/-
  WHAT A SCRIPT LEAVES IN MEMORY: the Locker, the two rows, the holds made; what each operation of a round does to that.
-/
import Derived.Test.Qxb6616530aSteps
namespace Go.Proofs.Qxb6616530a
open Go.RowKit
set_option linter.unusedVariables false

theorem info35 : (Try.prog.info? 35).map (fun i => (i.zero, i.size, i.bytes)) = some (some (.pointer none), 1, 8) := by kernel_rfl
theorem info3 : (Try.prog.info? 3).map (fun i => (i.zero, i.size, i.bytes)) = some (some (.int .i64 0), 1, 8) := by kernel_rfl

theorem make35 (n : Nat) (hn : n ≤ 4096) (w : World) :
    (Instr.makeSlice 33 (.int .i64 (n : Int)) (.int .i64 (n : Int))).run Try.prog w = .ok (.slice (some ⟨w.heap.size, 0, none⟩) n n) (w.alloc (.cells (madeCells #[.pointer none] n) 35)) :=
  run_make_row' (P := Try.prog) 33 35 (.pointer none) 8 Try.underlying33 info35 rfl .i64 .i64 n (by omega) (by omega) w
theorem make3 (n : Nat) (hn : n ≤ 4096) (w : World) :
    (Instr.makeSlice 34 (.int .i64 (n : Int)) (.int .i64 (n : Int))).run Try.prog w = .ok (.slice (some ⟨w.heap.size, 0, none⟩) n n) (w.alloc (.cells (madeCells #[.int .i64 0] n) 3)) :=
  run_make_row' (P := Try.prog) 34 3 (.int .i64 0) 8 Try.underlying34 info3 rfl .i64 .i64 n (by omega) (by omega) w

/-- The memory of a script: L, bm: the Locker and its map; M: the row of holds; M + 1: the row of targets; holds lie from M + 2 on. -/
structure St (w : World) (L bm M n : Nat) (S : Nat → ByteArray) (F : Nat → Bool) (R Q : Nat → Value) (H : Nat → Nat) (k nd : Nat) (D : DataW Unit) : Prop where
  lk : Lk w L bm
  row : w.rowIs M 35 n R
  trow : w.rowIs (M + 1) 3 n Q
  holds : ∀ j, j < k → F j = false → HoldAt w (H j) (S j) ∧ M + 2 ≤ H j
  up : ∀ i j, i < j → j < k → F i = false → F j = false → H i < H j
  od : w.ownsMap Try.prog 9 ptrElem bm nd D
  lt : L < M
  blt : bm < L
  sz : M + 2 ≤ w.heap.size

section
variable {w w' : World} {L bm M n : Nat} {S : Nat → ByteArray} {F : Nat → Bool} {R Q : Nat → Value} {H H' : Nat → Nat} {k nd : Nat} {D D' : DataW Unit}

theorem St.setT (h : St w L bm M n S F R Q H k nd D) (i : Nat) (v : Value) : St (w.setCell ⟨M + 1, i, none⟩ v) L bm M n S F R (fun j => if j = i then v else Q j) H k nd D := by
  have hf : Fr w (w.setCell ⟨M + 1, i, none⟩ v) (M + 1) (M + 1) := Fr.set _ _ _ _ _
  have := h.lt
  have := h.blt
  exact ⟨h.lk.fr hf (by omega) (by omega), h.row.setOther (a := ⟨M + 1, i, none⟩) (by show M ≠ M + 1; omega) _, h.trow.set i v, fun j hj hF => ⟨(h.holds j hj hF).1.fr hf (by have := (h.holds j hj hF).2; omega) (by have := (h.holds j hj hF).2; omega), (h.holds j hj hF).2⟩, h.up, owns_fr h.od hf (by omega) (by omega), h.lt, h.blt, by simpa using h.sz⟩

theorem St.setM (h : St w L bm M n S F R Q H k nd D) (i : Nat) (v : Value) : St (w.setCell ⟨M, i, none⟩ v) L bm M n S F (fun j => if j = i then v else R j) Q H k nd D := by
  have hf : Fr w (w.setCell ⟨M, i, none⟩ v) M M := Fr.set _ _ _ _ _
  have := h.lt
  have := h.blt
  exact ⟨h.lk.fr hf (by omega) (by omega), h.row.set i v, h.trow.setOther (a := ⟨M, i, none⟩) (by show M + 1 ≠ M; omega) _, fun j hj hF => ⟨(h.holds j hj hF).1.fr hf (by have := (h.holds j hj hF).2; omega) (by have := (h.holds j hj hF).2; omega), (h.holds j hj hF).2⟩, h.up, owns_fr h.od hf (by omega) (by omega), h.lt, h.blt, by simpa using h.sz⟩

theorem St.fr (h : St w L bm M n S F R Q H k nd D) (hf : Fr w w' L bm) (hl : Lk w' L bm) {nd' : Nat} (ho : w'.ownsMap Try.prog 9 ptrElem bm nd' D') : St w' L bm M n S F R Q H k nd' D' := by
  have h1 := h.lt
  have h2 := h.blt
  have h3 := h.sz
  exact ⟨hl, h.row.of_block (hf.block M (by omega) (by omega) (by omega)), h.trow.of_block (hf.block (M + 1) (by omega) (by omega) (by omega)), fun j hj hF => ⟨(h.holds j hj hF).1.fr hf (by have := (h.holds j hj hF).2; omega) (by have := (h.holds j hj hF).2; omega), (h.holds j hj hF).2⟩, h.up, ho, h.lt, h.blt, Nat.le_trans h3 hf.size⟩

theorem St.new (h : St w L bm M n S F R Q H k nd D) (c : Array Value) : St (w.alloc (.cells c 86)) L bm M n S F R Q H k nd D :=
  h.fr (Fr.alloc _ _ _ _) (h.lk.fr (Fr.alloc _ _ M M) (by have := h.lt; omega) (by have := h.lt; omega)) (h.od.alloc _)

theorem St.reg (h : St w L bm M n S F R Q H k nd D) (hf : Fr w w' bm bm) {nd' : Nat} (ho : w'.ownsMap Try.prog 9 ptrElem bm nd' D') : St w' L bm M n S F R Q H k nd' D' :=
  h.fr (hf.wide L) (h.lk.fr hf h.lk.ne h.lk.ne) ho

theorem hold_new (w : World) (c : Array Value) (s : ByteArray) (hc : c[1]? = some (.string s)) : HoldAt (w.alloc (.cells c 86)) w.heap.size s := ⟨c, Deep.blk_alloc_new _ _, hc⟩

/-- A step that is no make: the holds are as they were. -/
theorem St.pass (h : St w L bm M n S F R Q H k nd D) (hF : F k = true) : St w L bm M n S F R Q H (k + 1) nd D := by
  refine ⟨h.lk, h.row, h.trow, fun j hj hFj => ?_, fun i j hij hj hFi hFj => ?_, h.od, h.lt, h.blt, h.sz⟩
  · rcases Nat.lt_or_eq_of_le (Nat.le_of_lt_succ hj) with h' | h'
    · exact h.holds j h' hFj
    · subst h'; rw [hF] at hFj; cases hFj
  · rcases Nat.lt_or_eq_of_le (Nat.le_of_lt_succ hj) with h' | h'
    · exact h.up i j hij h' hFi hFj
    · subst h'; rw [hF] at hFj; cases hFj

/-- A make: one hold more, in a block behind all that was there at the round's head (w0). -/
theorem St.made {w0 : World} {R0 Q0 : Nat → Value} {nd0 : Nat} {D0 : DataW Unit} {p : Nat} (h0 : St w0 L bm M n S F R0 Q0 H k nd0 D0) (h : St w L bm M n S F R Q H k nd D) (hp : HoldAt w p (S k)) (hw : w0.heap.size ≤ p) : St w L bm M n S F R Q (fun j => if j = k then p else H j) (k + 1) nd D := by
  have hs := h0.sz
  refine ⟨h.lk, h.row, h.trow, fun j hj hFj => ?_, fun i j hij hj hFi hFj => ?_, h.od, h.lt, h.blt, h.sz⟩
  · by_cases e : j = k
    · subst e; simp only [if_true]; exact ⟨hp, by omega⟩
    · simp only [if_neg e]; exact h.holds j (by omega) hFj
  · have hi : i ≠ k := by omega
    simp only [if_neg hi]
    by_cases e : j = k
    · subst e; simp only [if_true]
      have := (h0.holds i hij hFi).1.lt
      omega
    · simp only [if_neg e]; exact h.up i j hij (by omega) hFi hFj

theorem St.rows {R' Q' : Nat → Value} (h : St w L bm M n S F R Q H k nd D) (hR : ∀ j, j < n → R j = R' j) (hQ : ∀ j, j < n → Q j = Q' j) {nd' : Nat} (hn : nd ≤ nd') : St w L bm M n S F R' Q' H k nd' D :=
  ⟨h.lk, h.row.congr hR, h.trow.congr hQ, h.holds, h.up, h.od.mono hn, h.lt, h.blt, h.sz⟩

end

/-- The rows after k rounds. -/
def mrow (F : Nat → Bool) (H : Nat → Nat) (k j : Nat) : Value := if j < k ∧ F j = false then .pointer (some ⟨H j, 0, none⟩) else .pointer none
def trow (tg : Nat → Int) (k j : Nat) : Value := if j < k then .int .i64 (tg j) else .int .i64 0

theorem trow_step (tg : Nat → Int) (k j : Nat) (v : Int) : (if j = k then Value.int .i64 v else trow tg k j) = trow (fun x => if x = k then v else tg x) (k + 1) j := by
  unfold trow
  by_cases e : j = k
  · subst e; simp
  · by_cases h : j < k
    · simp [e, h, Nat.lt_succ_of_lt h]
    · have h' : ¬ j < k + 1 := by omega
      simp [e, h, h']

theorem mrow_make (F : Nat → Bool) (H : Nat → Nat) (k j p : Nat) (hF : F k = false) : (if j = k then Value.pointer (some ⟨p, 0, none⟩) else mrow F H k j) = mrow F (fun x => if x = k then p else H x) (k + 1) j := by
  unfold mrow
  by_cases e : j = k
  · subst e; simp [hF]
  · by_cases h : j < k
    · simp [e, h, Nat.lt_succ_of_lt h]
    · have h' : ¬ j < k + 1 := by omega
      simp [e, h, h']

theorem mrow_pass (F : Nat → Bool) (H : Nat → Nat) (k j : Nat) (hF : F k = true) : mrow F H k j = mrow F H (k + 1) j := by
  unfold mrow
  by_cases e : j = k
  · subst e; simp [hF]
  · by_cases h : j < k
    · simp [h, Nat.lt_succ_of_lt h]
    · have h' : ¬ j < k + 1 := by omega
      simp [h, h']

theorem inv_congr {D : DataW Unit} {S : Nat → ByteArray} {F T : Nat → Bool} {tg tg' : Nat → Int} {H : Nat → Nat} {k : Nat} (h : Inv D S F T tg H k) (ht : ∀ j, j < k → tg' j = tg j) : Inv D S F T tg' H k := by
  have hk : ∀ r, Killed tg' k r ↔ Killed tg k r := by
    intro r
    constructor
    · rintro ⟨j, a, b, c⟩; exact ⟨j, a, b, by rw [← ht j b]; exact c⟩
    · rintro ⟨j, a, b, c⟩; exact ⟨j, a, b, by rw [ht j b]; exact c⟩
  have ha : ∀ s r, Alive S F T tg' k s r ↔ Alive S F T tg k s r := fun s r => by unfold Alive; rw [hk]
  exact ⟨fun s r h1 => h.live s r ((ha s r).1 h1), fun s hd => h.dead s fun r h1 => hd r ((ha s r).2 h1), h.keys⟩

/-- What stands under a name may be compared, and is no other block. -/
theorem inv_ptr {w : World} {L bm M n : Nat} {S : Nat → ByteArray} {F T : Nat → Bool} {R Q : Nat → Value} {H : Nat → Nat} {k nd : Nat} {D : DataW Unit} {tg : Nat → Int} (h : St w L bm M n S F R Q H k nd D) (hi : Inv D S F T tg H k) (s : ByteArray) :
    PtrIn w (under D s) ∧ under D s ≠ .pointer (some ⟨L, 0, none⟩) := by
  by_cases ha : ∃ r, Alive S F T tg k s r
  · obtain ⟨r, ha⟩ := ha
    rw [inv_under_live hi ha]
    have hh := h.holds r ha.1.1 ha.1.2.1
    have := h.lt
    exact ⟨hh.1.ptr, fun e => by injection e with e; injection e with e; injection e with e; omega⟩
  · rw [inv_under_dead hi fun r hr => ha ⟨r, hr⟩]
    exact ⟨Or.inl rfl, fun e => by cases e⟩

/-- A forget of a hold in a block where no live hold of that name lies leaves the map alone. -/
theorem forgot_other {S : Nat → ByteArray} {F T : Nat → Bool} {H : Nat → Nat} {k : Nat} {D : DataW Unit} {tg : Nat → Int} (hi : Inv D S F T tg H k) (s : ByteArray) (p : Nat) (hp : ∀ r, Alive S F T tg k s r → H r ≠ p) : forgot D s p = D := by
  unfold forgot
  by_cases ha : ∃ r, Alive S F T tg k s r
  · obtain ⟨r, ha⟩ := ha
    rw [inv_under_live hi ha]
    simp [eqv, hp r ha]
  · rw [inv_under_dead hi fun r hr => ha ⟨r, hr⟩]
    simp [eqv]

/-- A forget of the live hold takes the entry out. -/
theorem forgot_live {S : Nat → ByteArray} {F T : Nat → Bool} {H : Nat → Nat} {k : Nat} {D : DataW Unit} {tg : Nat → Int} (hi : Inv D S F T tg H k) {s : ByteArray} {r : Nat} (ha : Alive S F T tg k s r) : forgot D s (H r) = D.del (key s) := by
  unfold forgot
  rw [inv_under_live hi ha]
  simp [eqv]

end Go.Proofs.Qxb6616530a
