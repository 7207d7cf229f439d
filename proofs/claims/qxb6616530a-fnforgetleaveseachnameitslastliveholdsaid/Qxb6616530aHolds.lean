/-
  THE WALKS of the Locker's makers and readers: ZZnewLocker, ZZnewHold, ZZregisterHold, ZZholdOf, ZZholdsLen, over a map of holds.
-/
import Derived.Test.Qxb6616530aRows
import Derived.Test.Qxb6616530aLocks
import Derived.WalkKit
import Derived.WalkSpells
import Derived.WalkLawsBesides
import Derived.Laws.LoneSync
import Derived.Deep.QuietTactic
import Derived.BigQuiet
import Derived.RegionTactic
import Derived.LoopTactic
import Derived.Maps.OwnSet
import Derived.Defers
import Derived.RowKit3
import Derived.LaidEqlPtr
namespace Go.Proofs.Qxb6616530a
open Go.RowKit Go.MuLone

/-! ### frames -/
theorem cell_lt {w : World} {a : Addr} {v : Value} (h : w.cell? a = some v) : a.block < w.heap.size := by
  rcases Nat.lt_or_ge a.block w.heap.size with hlt | hge
  · exact hlt
  · simp [World.cell?, Array.getElem?_eq_none hge] at h

/-- w' is w but for blocks x and y, and for new blocks. -/
structure Fr (w w' : World) (x y : Nat) : Prop where
  os : w'.os = w.os
  tape : w'.tape = w.tape
  output : w'.output = w.output
  size : w.heap.size ≤ w'.heap.size
  block : ∀ i, i < w.heap.size → i ≠ x → i ≠ y → w'.heap[i]? = w.heap[i]?

theorem Fr.cell {w w' : World} {x y : Nat} (h : Fr w w' x y) {a : Addr} {v : Value} (hx : a.block ≠ x) (hy : a.block ≠ y) (hc : w.cell? a = some v) : w'.cell? a = some v :=
  (World.cell?_of_block (w := w) (h.block a.block (cell_lt hc) hx hy)).trans hc

theorem Fr.frozen {w w' : World} {x y : Nat} (h : Fr w w' x y) {a : Addr} (ha : a.block < w.heap.size) (hx : a.block ≠ x) (hy : a.block ≠ y) : w'.frozen? a = w.frozen? a :=
  World.frozen?_of_block (w := w) (h.block a.block ha hx hy)

theorem Fr.below {w w' : World} {x y B : Nat} (h : Fr w w' x y) (hB : B ≤ w.heap.size) (hx : B ≤ x) (hy : B ≤ y) : Below B w w' :=
  ⟨h.os, h.tape, h.output, h.size, fun k hk => h.block k (by omega) (by omega) (by omega)⟩

theorem Fr.of_grown {w w' : World} {x : Nat} (h : w.grownBy w' (some x)) : Fr w w' x x :=
  ⟨h.os, h.tape, h.output, h.size, fun i hi hx _ => h.block i hi (by simpa using hx)⟩

theorem Fr.alloc (w : World) (o : Obj) (x y : Nat) : Fr w (w.alloc o) x y :=
  ⟨rfl, rfl, rfl, by simp, fun i hi _ _ => Below.heap_alloc w o i hi⟩

theorem Fr.trans {a b c : World} {x y : Nat} (h : Fr a b x y) (k : Fr b c x y) : Fr a c x y :=
  ⟨k.os.trans h.os, k.tape.trans h.tape, k.output.trans h.output, Nat.le_trans h.size k.size, fun i hi hx hy => (k.block i (Nat.lt_of_lt_of_le hi h.size) hx hy).trans (h.block i hi hx hy)⟩

theorem Fr.wide {w w' : World} {x : Nat} (h : Fr w w' x x) (y : Nat) : Fr w w' y x :=
  ⟨h.os, h.tape, h.output, h.size, fun i hi _ hx => h.block i hi hx hx⟩

theorem Fr.set (w : World) (x y o : Nat) (v : Value) : Fr w (w.setCell ⟨x, o, none⟩ v) x y :=
  ⟨rfl, rfl, rfl, by simp, fun i _ hx _ => Below.heap_setCell w _ v i hx⟩

theorem Fr.drew {w w' : World} {x y : Nat} (h : Fr w w' x y) (n : Nat) : Fr w (w'.drewN n) x y := ⟨h.os, h.tape, h.output, h.size, h.block⟩
theorem Fr.from_drew {w w' : World} {x y n : Nat} (h : Fr (w.drewN n) w' x y) : Fr w w' x y := ⟨h.os, h.tape, h.output, h.size, h.block⟩

theorem owns_fr {H : Type} {w w' : World} {x y b n : Nat} {k : TypeId} {R : Value → Option (DataW H × List MemPlace)} {D : DataW H} (h : w.ownsMap Try.prog k R b n D) (hf : Fr w w' x y) (hx : b ≠ x) (hy : b ≠ y) : w'.ownsMap Try.prog k R b n D := by
  have hlt := h.lt
  obtain ⟨es, clock, hb, r⟩ := h
  exact ⟨es, clock, (hf.block b hlt hx hy).trans hb, r⟩

/-! ### the map of holds: an element is a pointer to a block, or nil -/
def ptrElem (v : Value) : Option (DataW Unit × List MemPlace) :=
  match v with
  | .pointer none => some (.nil, [])
  | .pointer (some a) => if a.off = 0 ∧ a.spot = none then some (.lit (.int .i64 a.block), []) else none
  | _ => none

/-- What an element's datum stands for. -/
def ptrOf (d : DataW Unit) : Value :=
  match d with
  | .lit (.int _ b) => .pointer (some ⟨b.toNat, 0, none⟩)
  | _ => .pointer none

theorem ptrElem_mk (b : Nat) : ptrElem (.pointer (some ⟨b, 0, none⟩)) = some (.lit (.int .i64 b), []) := by simp [ptrElem]
theorem ptrElem_nil : ptrElem (.pointer none) = some (.nil, []) := rfl
theorem ptrElem_of {v : Value} {d : DataW Unit} {ps : List MemPlace} (h : ptrElem v = some (d, ps)) : v = ptrOf d := by
  unfold ptrElem at h
  split at h
  · simp at h; obtain ⟨rfl, _⟩ := h; rfl
  · split at h
    · rename_i a hc
      simp at h; obtain ⟨rfl, _⟩ := h
      obtain ⟨b, o, s⟩ := a
      simp at hc; obtain ⟨rfl, rfl⟩ := hc
      simp [ptrOf]
    · cases h
  · cases h

open Go.Maps in
theorem law9 : Keyed Try.prog 9 := string_keyed Try.underlying9
theorem zero35 (w : World) : (zeroValue 35).run Try.prog w = .ok (.pointer none) w := by kernel_rfl
theorem zero3 (w : World) : (zeroValue 3).run Try.prog w = .ok (.int .i64 0) w := by kernel_rfl

/-- The key that a string reads as. -/
def key (s : ByteArray) : Lit := .string s.data.toList
theorem key_of {s : ByteArray} (hs : s.size ≤ maxLen) : keyOf Try.prog 9 (.string s) = some (key s) := WideMaps.keyOf_string_mk Try.underlying9 hs
theorem key_lit {s : ByteArray} (hs : s.size ≤ maxLen) : WideAt.IsKeyLit (key s) := law9.key (key_of hs)
theorem key_inj {s t : ByteArray} (h : key s = key t) : s = t := by
  unfold key at h
  have h1 : s.data.toList = t.data.toList := by simpa using h
  have h2 : s.data = t.data := Array.toList_inj.1 h1
  cases s; cases t; simp at h2; rw [h2]

/-- The hold stored under a name. -/
def under (D : DataW Unit) (s : ByteArray) : Value := ptrOf (D.atKey (key s) .nil)

theorem look_holds {w : World} {bm n : Nat} {D : DataW Unit} (h : w.ownsMap Try.prog 9 ptrElem bm n D) (s : ByteArray) (hs : s.size ≤ maxLen) (wx : World) (hx : wx.heap[bm]? = w.heap[bm]?) :
    (Instr.lookup 45 (.map (some bm)) (.string s) false).run Try.prog wx = .ok (under D s) wx := by
  have h' : wx.ownsMap Try.prog 9 ptrElem bm n D := by
    obtain ⟨es, clock, hb, r⟩ := h
    exact ⟨es, clock, hx.trans hb, r⟩
  obtain ⟨v, ps, hrun, hv⟩ := h'.lookup law9 Try.underlying45 (zero35 wx) ptrElem_nil (key_of hs)
  rw [hrun, ptrElem_of hv]
  rfl

/-! ### the Locker -/
structure Lk (w : World) (L bm : Nat) : Prop where
  c17 : w.cell? ⟨L, 17, none⟩ = some (.int .i32 0)
  f17 : w.frozen? ⟨L, 17, none⟩ = false
  c19 : w.cell? ⟨L, 19, none⟩ = some (.map (some bm))
  ne : L ≠ bm

theorem Lk.fr {w w' : World} {L bm x y : Nat} (h : Lk w L bm) (hf : Fr w w' x y) (hx : L ≠ x) (hy : L ≠ y) : Lk w' L bm :=
  ⟨hf.cell (a := ⟨L, 17, none⟩) hx hy h.c17, (hf.frozen (a := ⟨L, 17, none⟩) (cell_lt h.c17) hx hy).trans h.f17, hf.cell (a := ⟨L, 19, none⟩) hx hy h.c19, h.ne⟩

set_option maxHeartbeats 400000 in
theorem store_any (b : Nat) (x v : Int) (w : World) (hc : w.cell? ⟨b, 16, none⟩ = some (.int .u64 x)) (hz : w.frozen? ⟨b, 16, none⟩ = false) :
    Calls Try.prog 22 #[.pointer (some ⟨b, 16, none⟩), .int .u64 v] w fun e w' => e = .returned (.tuple #[]) ∧ w' = w.setCell ⟨b, 16, none⟩ (.int .u64 v) := by
  have hst := run_call_store (P := Try.prog) Try.func24 (by kernel_rfl) (by kernel_rfl) (by kernel_rfl) (by kernel_rfl) (k := .u64) (y := v) hc hz
  go_enter Try.func22, Try.ntmps22
  go_wp2
  go_end0
  exact ⟨rfl, rfl⟩

set_option maxHeartbeats 400000 in
theorem newlocker_any (s : ByteArray) (w : World) :
    Calls Try.prog 11 #[.string s, .int .u64 0] w fun e w' => e = .returned (.pointer (some ⟨w.heap.size + 1, 0, none⟩)) ∧ Lk w' (w.heap.size + 1) w.heap.size ∧ w'.ownsMap Try.prog 9 ptrElem w.heap.size 0 (.map []) ∧ Below w.heap.size w w' ∧ w.heap.size + 2 ≤ w'.heap.size := by
  have hmm := @run_makeMap Try.prog
  go_enter Try.func11, Try.ntmps11
  go_wp2_with fail
  refine (store_any (w.heap.size + 1) 0 0 _ (by simp [go_sem]) (by simp [go_sem])).mono ?_
  rintro e w1 ⟨rfl, rfl⟩
  go_wp2_with fail
  go_ret
  refine ⟨rfl, ⟨by simp [go_sem], by simp [go_sem], by simp [go_sem], by omega⟩, ?_, ?_, ?_⟩
  · first | exact (World.ownsMap_made w _ _ _).alloc _ | exact ((World.ownsMap_made w _ _ _).alloc _).setCell (by simp) _
  · first | exact ((Below.refl _ _).alloc (Nat.le_refl _) _).alloc (by simp) _ | exact (((Below.refl _ _).alloc (Nat.le_refl _) _).alloc (by simp) _).setCell (by simp) _
  · simp

set_option maxHeartbeats 400000 in
theorem newhold_any (L : Nat) (s : ByteArray) (w : World) :
    Calls Try.prog 12 #[.pointer (some ⟨L, 0, none⟩), .string s] w fun e w' => ∃ c : Array Value, c[1]? = some (.string s) ∧ e = .returned (.pointer (some ⟨w.heap.size, 0, none⟩)) ∧ w' = w.alloc (.cells c 86) := by
  go_enter Try.func12, Try.ntmps12
  go_wp2
  go_ret
  exact ⟨_, rfl, rfl, rfl⟩

set_option maxHeartbeats 400000 in
theorem register_any (L bm H n : Nat) (s : ByteArray) (D : DataW Unit) (w : World) (hl : Lk w L bm) (hown : w.ownsMap Try.prog 9 ptrElem bm n D) (hn : n < maxLen) (hc : w.cell? ⟨H, 1, none⟩ = some (.string s)) (hs : s.size ≤ maxLen) :
    Calls Try.prog 13 #[.pointer (some ⟨L, 0, none⟩), .pointer (some ⟨H, 0, none⟩)] w fun e w' => e = .returned (.tuple #[]) ∧ w'.ownsMap Try.prog 9 ptrElem bm (n + 1) (D.put (key s) (.lit (.int .i64 H))) ∧ Fr w w' bm bm := by
  obtain ⟨_, _, c19, _⟩ := hl
  obtain ⟨w2, hrun, hown2, hg⟩ := (hown.drew).update law9 Try.underlying45 hn (key_of hs) (ptrElem_mk H)
  clear hown hn
  have HO : Hid (w2.ownsMap Try.prog 9 ptrElem bm (n + 1) (D.put (key s) (.lit (.int .i64 H))) ∧ Fr w w2 bm bm) := by
    refine ⟨hown2, ?_⟩
    have := Fr.of_grown hg
    exact ⟨this.os, this.tape, this.output, this.size, this.block⟩
  clear hown2 hg
  go_enter Try.func13, Try.ntmps13
  go_wp2
  go_region
  go_end0
  exact ⟨rfl, HO.out⟩

set_option maxHeartbeats 400000 in
theorem holdof_any (L bm n : Nat) (s : ByteArray) (D : DataW Unit) (w : World) (hl : Lk w L bm) (hown : w.ownsMap Try.prog 9 ptrElem bm n D) (hs : s.size ≤ maxLen) :
    Calls Try.prog 17 #[.pointer (some ⟨L, 0, none⟩), .string s] w fun e w' => e = .returned (under D s) ∧ w' = w := by
  obtain ⟨_, _, c19, _⟩ := hl
  have hlk := look_holds hown s hs w rfl
  clear hown
  generalize under D s = v at *
  go_enter Try.func17, Try.ntmps17
  go_wp2
  go_ret
  exact ⟨rfl, rfl⟩

set_option maxHeartbeats 400000 in
theorem holdslen_any (L bm n : Nat) (D : DataW Unit) (w : World) (hl : Lk w L bm) (hown : w.ownsMap Try.prog 9 ptrElem bm n D) :
    Calls Try.prog 18 #[.pointer (some ⟨L, 0, none⟩)] w fun e w' => e = .returned (.int .i64 (Maps.size D)) ∧ w' = w := by
  obtain ⟨_, _, c19, _⟩ := hl
  have hlen := fun ty => hown.len Try.underlying45 ty
  clear hown
  generalize Maps.size D = v at *
  go_enter Try.func18, Try.ntmps18
  go_wp2
  go_ret
  exact ⟨rfl, rfl⟩

end Go.Proofs.Qxb6616530a
