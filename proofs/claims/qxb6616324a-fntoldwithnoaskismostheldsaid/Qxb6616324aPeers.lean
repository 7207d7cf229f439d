/-
  THE WALK of toPeers: a new row of Peers, field for field.
-/
import Derived.Test.Qxb6616324aTold
import Derived.Laws.MakeOwn
import Derived.Deep.OwnRows
namespace Go.Proofs.Qxb6616324a
open Go.RowKit

theorem info40 : (Try.prog.info? 40).map (fun i => (i.zero, i.size, i.bytes)) = some (some (.agg #[.int .u64 0, .int .u64 0]), 2, 16) := by kernel_rfl

theorem make40 (n : Nat) (hn : n ≤ 65536) (w : World) :
    (Instr.makeSlice 25 (.int .i64 (n : Int)) (.int .i64 (n : Int))).run Try.prog w = .ok (.slice (some ⟨w.heap.size, 0, none⟩) n n) (w.alloc (.cells (madeCells #[.int .u64 0, .int .u64 0] (n * 2)) 40)) := by
  have hi := info40
  cases hp : Try.prog.info? 40 with
  | none => rw [hp] at hi; cases hi
  | some i =>
    rw [hp] at hi
    simp only [Option.map_some, Option.some.injEq, Prod.mk.injEq] at hi
    obtain ⟨h1, h2, h3⟩ := hi
    have := run_make (P := Try.prog) w 25 40 i _ Try.underlying25 hp h1 .i64 .i64 n n (by omega) (by omega) (by rw [h3]; omega) (by omega)
    rw [h2] at this
    simpa [Value.cells] using this

theorem made40 (w : World) (n : Nat) : (w.alloc (.cells (madeCells #[.int .u64 0, .int .u64 0] (n * 2)) 40)).rowIs w.heap.size 40 (n * 2) (fun _ => .int .u64 0) := by
  refine ⟨_, Deep.blk_alloc_new _ _, size_madeCells _ _, fun i hi => ?_⟩
  have h2 : i % 2 = 0 ∨ i % 2 = 1 := by omega
  rcases h2 with h | h <;> simp [madeCells, hi, h]

/-- What cell j of the new row holds after k rounds. -/
def rowAt (I Hd : Nat → Int) (k j : Nat) : Value := if j < k * 2 then (if j % 2 = 0 then .int .u64 (I (j / 2)) else .int .u64 (Hd (j / 2))) else .int .u64 0

theorem row_step {w : World} {B n k : Nat} {I Hd : Nat → Int} (h : w.rowIs B 40 (n * 2) (rowAt I Hd k)) :
    ((w.setCell ⟨B, k * 2, none⟩ (.int .u64 (I k))).setCell ⟨B, k * 2 + 1, none⟩ (.int .u64 (Hd k))).rowIs B 40 (n * 2) (rowAt I Hd (k + 1)) := by
  refine ((h.set _ _).set _ _).congr fun j hj => ?_
  unfold rowAt
  by_cases h1 : j = k * 2 + 1
  · subst h1
    simp only [if_true]
    rw [if_pos (by omega), if_neg (by omega), show (k * 2 + 1) / 2 = k from by omega]
  · rw [if_neg h1]
    by_cases h2 : j = k * 2
    · subst h2
      simp only [if_true]
      rw [if_pos (by omega), if_pos (by omega), show k * 2 / 2 = k from by omega]
    · rw [if_neg h2]
      by_cases h3 : j < k * 2
      · rw [if_pos h3, if_pos (by omega : j < (k + 1) * 2)]
      · rw [if_neg h3, if_neg (by omega : ¬ j < (k + 1) * 2)]

theorem peers_of_row {w : World} {B n : Nat} {I Hd : Nat → Int} (h : w.rowIs B 40 (n * 2) (rowAt I Hd n)) (hw : ∀ i, i < n → (Lit.int .u64 (I i)).wf = true) : Peers w B 0 n I Hd := by
  refine ⟨h.lt, fun i hi => ⟨?_, ?_, hw i hi⟩⟩
  · rw [h.cell (by omega : 0 + i * 2 < n * 2)]
    unfold rowAt
    rw [if_pos (by omega), if_pos (by omega), show (0 + i * 2) / 2 = i from by omega]
  · rw [h.cell (by omega : 0 + i * 2 + 1 < n * 2)]
    unfold rowAt
    rw [if_pos (by omega), if_neg (by omega), show (0 + i * 2 + 1) / 2 = i from by omega]

set_option maxHeartbeats 800000 in
theorem topeers_any (b off n cap : Nat) (I Hd : Nat → Int) (w : World) (hn : n ≤ 65536) (hp : Peers w b off n I Hd) :
    Calls Try.prog 6 #[.slice (some ⟨b, off, none⟩) n cap] w fun e w' =>
      e = .returned (.slice (some ⟨w.heap.size, 0, none⟩) n n) ∧ Peers w' w.heap.size 0 n I Hd ∧ Below w.heap.size w w' := by
  have hmk := make40 n hn
  go_enter Try.func6, Try.ntmps6
  go_wp2
  go_loopw [4] (fun i wr => ∃ k : Nat, k ≤ n ∧ i = .int .i64 k ∧ wr.rowIs w.heap.size 40 (n * 2) (rowAt I Hd k) ∧ Below w.heap.size w wr) (fun i _ => n - (intOf i).toNat)
  case atStart => exact ⟨0, Nat.zero_le _, rfl, (made40 w n).congr fun j hj => by simp [rowAt], (Below.refl _ _).alloc (Nat.le_refl _) _⟩
  case round =>
    obtain ⟨k, hk, rfl, hrow, hb⟩ := hrel
    have hbn : b < w.heap.size := hp.1
    by_cases hlt : k < n
    · obtain ⟨c0, c1, hw0⟩ := (hp.below hb).2 k hlt
      have hlt' : (k : Int) < (n : Int) := by omega
      have r0 := hrow.cell (i := k * 2) (by omega)
      have r1 := hrow.cell (i := k * 2 + 1) (by omega)
      have f0 := hrow.frozen (k * 2)
      have f1 := hrow.frozen (k * 2 + 1)
      obtain ⟨v0, hv0⟩ : ∃ v, rowAt I Hd k (k * 2) = v := ⟨_, rfl⟩
      obtain ⟨v1, hv1⟩ : ∃ v, rowAt I Hd k (k * 2 + 1) = v := ⟨_, rfl⟩
      rw [hv0] at r0
      rw [hv1] at r1
      clear hv0 hv1 hmk hp hw0
      have HROW : Hid (wr.rowIs w.heap.size 40 (n * 2) (rowAt I Hd k)) := hrow
      clear hrow
      go_wp2
      go_region
      go_wp2
      go_roundw
      case rel => exact ⟨k + 1, by omega, by go_num, (row_step HROW.out).drew, ((hb.setCell (Nat.le_refl _) _).setCell (Nat.le_refl _) _).drew⟩
      case measure => simp [intOf]; omega
    · go_wp2
      go_ret
      have hkn : k = n := by omega
      subst hkn
      exact ⟨rfl, peers_of_row hrow fun i hi => (hp.2 i hi).2.2, hb⟩

set_option maxHeartbeats 400000 in
theorem topeers_none (a : Option Addr) (cap : Nat) (w : World) :
    Calls Try.prog 6 #[.slice a 0 cap] w fun e w' => e = .returned (.slice (some ⟨w.heap.size, 0, none⟩) 0 0) ∧ Below w.heap.size w w' := by
  have hmk : ∀ w, (Instr.makeSlice 25 (.int .i64 0) (.int .i64 0)).run Try.prog w = .ok (.slice (some ⟨w.heap.size, 0, none⟩) 0 0) (w.alloc (.cells (madeCells #[.int .u64 0, .int .u64 0] (0 * 2)) 40)) := fun w => make40 0 (by omega) w
  go_enter Try.func6, Try.ntmps6
  go_wp2
  go_loop [4] (fun i => i = .int .i64 0) (fun _ => 0)
  case atStart => rfl
  case round =>
    subst hrel
    go_wp2
    go_ret
    exact ⟨rfl, (Below.refl _ _).alloc (Nat.le_refl _) _⟩

/-! ### the maps -/
open Go.Maps in
theorem law22 : Keyed Try.prog 22 := int_keyed Try.underlying22
theorem zero22 (w : World) : (zeroValue 22).run Try.prog w = .ok (.int .u64 0) w := by kernel_rfl

/-- What a map's datum answers at a key. -/
def valOf (D : DataW Unit) (id : Int) : Int := match D.atKey (.int .u64 id) (.lit (.int .u64 0)) with
  | .lit (.int _ c) => c
  | _ => 0

theorem looks_of_owns {w : World} {bm n : Nat} {D : DataW Unit} (h : w.ownsMap Try.prog 22 (plainElem Try.prog 22) bm n D) : Looks w bm (valOf D) := by
  refine ⟨h.lt, fun wx hx id hid => ?_⟩
  have h' : wx.ownsMap Try.prog 22 (plainElem Try.prog 22) bm n D := by
    obtain ⟨es, clock, hb, r⟩ := h
    exact ⟨es, clock, hx.trans hb, r⟩
  obtain ⟨c, hrun, hat, _⟩ := h'.lookup_int law22 Try.underlying30 Try.underlying22 (zero22 wx) (Maps.keyOf_int_mk Try.underlying22 hid)
  rw [hrun]
  unfold valOf
  rw [hat]

theorem val_empty (id : Int) : valOf (.map []) id = 0 := rfl

theorem val_put_same {D : DataW Unit} (hD : Maps.IsMap D) (id c : Int) (hid : (Lit.int .u64 id).wf = true) : valOf (D.put (.int .u64 id) (.lit (.int .u64 c))) id = c := by
  unfold valOf
  rw [Maps.atKey_put_same hD (law22.key (Maps.keyOf_int_mk Try.underlying22 hid))]

theorem val_put_other {D : DataW Unit} (id id' c : Int) (hne : id' ≠ id) : valOf (D.put (.int .u64 id) (.lit (.int .u64 c))) id' = valOf D id' := by
  unfold valOf
  rw [Maps.atKey_put_other (by simpa using hne)]

theorem make_hint (n : Nat) (_hn : n ≤ 65536) (w : World) : (Instr.makeMap 30 (some (.int .i64 (n : Int)))).run Try.prog w = .ok (.map (some w.heap.size)) (w.alloc (.map #[] 0)) := by
  simp [Instr.makeMap, asInt, asIntOf]

end Go.Proofs.Qxb6616324a
